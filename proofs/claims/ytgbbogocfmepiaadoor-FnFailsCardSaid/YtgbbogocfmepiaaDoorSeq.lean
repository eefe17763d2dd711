/- A region whose order Go leaves open may be walked in the order of the text: proved once, for regions whose unordered operations do not meddle. -/
import Derived.WalkKit
set_option linter.unusedSimpArgs false
namespace Go.Proofs.YtgbbogocfmepiaaDoor
open Go.RowKit
/-! ### what may have turned -/
/-- of what was there only blocks of M may have turned -/
structure Upd (M : Nat → Prop) (w w' : World) : Prop where
  os : w'.os = w.os
  tape : w'.tape = w.tape
  output : w'.output = w.output
  size : w.heap.size ≤ w'.heap.size
  keep : ∀ k, k < w.heap.size → ¬ M k → w'.heap[k]? = w.heap[k]?
variable {M M' : Nat → Prop} {w w1 w2 : World}
theorem Upd.refl (M : Nat → Prop) (w : World) : Upd M w w := ⟨rfl, rfl, rfl, Nat.le_refl _, fun _ _ _ => rfl⟩
theorem Upd.trans (h : Upd M w w1) (h' : Upd M' w1 w2) (hm : ∀ k, M' k → k < w.heap.size → M k) : Upd M w w2 :=
  ⟨h'.os.trans h.os, h'.tape.trans h.tape, h'.output.trans h.output, Nat.le_trans h.size h'.size,
   fun k hk hn => (h'.keep k (Nat.lt_of_lt_of_le hk h.size) (fun hh => hn (hm k hh hk))).trans (h.keep k hk hn)⟩
theorem Upd.mono (h : Upd M' w w1) (hm : ∀ k, M' k → k < w.heap.size → M k) : Upd M w w1 := (Upd.refl M w).trans h hm
theorem Upd.drew (h : Upd M w w1) : Upd M w w1.drew := ⟨h.os, h.tape, h.output, h.size, h.keep⟩
theorem Upd.alloc (h : Upd M w w1) (o : Obj) : Upd M w (w1.alloc o) :=
  h.trans (M' := fun _ => False) ⟨rfl, rfl, rfl, by simp, fun k hk _ => Below.heap_alloc _ _ _ hk⟩ (fun _ hh => hh.elim)
theorem Upd.setCell (h : Upd M w w1) {p : Addr} (hp : p.block < w.heap.size → M p.block) (v : Value) : Upd M w (w1.setCell p v) :=
  h.trans (M' := fun k => k = p.block) ⟨rfl, rfl, rfl, by simp [World.setCell], fun k _ hk => Below.heap_setCell _ _ _ _ hk⟩ (fun k hk hh => by subst hk; exact hp hh)
theorem Upd.setRow (h : Upd M w w1) {g : Nat} (hg : g < w.heap.size → M g) (cs : Array Value) : Upd M w (w1.setRow g cs) :=
  h.trans (M' := fun k => k = g) ⟨rfl, rfl, rfl, by simp [World.setRow], fun k _ hk => setRow_other _ _ _ _ hk⟩ (fun k hk hh => by subst hk; exact hg hh)
theorem Upd.grown (h : Upd M w w1) {row : Option Nat} (hg : w1.grownBy w2 row) (hr : ∀ k, row = some k → k < w.heap.size → M k) : Upd M w w2 :=
  h.trans (M' := fun k => row = some k) ⟨hg.os, hg.tape, hg.output, hg.size, fun k hk hn => hg.block k hk (fun e => hn e.symm)⟩ (fun k hk hh => hr k hk hh)
theorem Upd.heap (h : Upd M w w1) {k : Nat} {o : Obj} (hk : w.heap[k]? = some o) (hm : ¬ M k) : w1.heap[k]? = some o := by
  rw [h.keep k (Array.getElem?_eq_some_iff.1 hk).1 hm]; exact hk
theorem Upd.cell (h : Upd M w w1) {p : Addr} {v : Value} (hk : w.cell? p = some v) (hm : ¬ M p.block) : w1.cell? p = some v :=
  (World.cell?_of_block (h.keep _ (World.block_lt_of_cell? w p hk) hm)).trans hk
theorem Upd.below (h : Upd M w w1) {B : Nat} (hB : ∀ k, M k → B ≤ k) (hs : B ≤ w.heap.size) : Below B w w1 :=
  ⟨h.os, h.tape, h.output, h.size, fun k hk => h.keep k (by omega) (fun hm => by have := hB k hm; omega)⟩
theorem Upd.ofBelow {B : Nat} (h : Below B w w1) : Upd (fun k => B ≤ k) w w1 := ⟨h.os, h.tape, h.output, h.size, fun k _ hn => h.block k (by omega)⟩
abbrev New (w w' : World) : Prop := Upd (fun _ => False) w w'
theorem Upd.new (h : New w w1) : Upd M w w1 := h.mono (fun _ hh => hh.elim)

theorem Upd.andNew (h : Upd M w w1) (h' : New w1 w2) : Upd M w w2 := h.trans h' (fun _ hh _ => False.elim hh)
theorem Upd.below0 (h : New w w1) : Below w.heap.size w w1 := h.below (fun _ hh => False.elim hh) (Nat.le_refl _)


variable {P : Program}

/-- where it comes to a value: the world is as it was, and in any other world it comes to the same -/
def FreeS {α : Type} (P : Program) (s : Sem α) : Prop := ∀ w x w1, s.run P w = .ok x w1 → w1 = w ∧ ∀ w', s.run P w' = .ok x w'
/-- where it comes to a value: the world is as it was -/
def CalmS {α : Type} (P : Program) (s : Sem α) : Prop := ∀ w x w1, s.run P w = .ok x w1 → w1 = w
def NeverS {α : Type} (P : Program) (s : Sem α) : Prop := ∀ w x w1, s.run P w ≠ .ok x w1
theorem FreeS.calm {α : Type} {s : Sem α} (h : FreeS P s) : CalmS P s := fun w x w1 e => (h w x w1 e).1
theorem NeverS.free {α : Type} {s : Sem α} (h : NeverS P s) : FreeS P s := fun w x w1 e => (h w x w1 e).elim
theorem FreeS.pure {α : Type} (x : α) : FreeS P (Pure.pure x) := by
  intro w y w1 h; simp at h; obtain ⟨rfl, rfl⟩ := h; simp
theorem NeverS.stuck {α : Type} (m : String) : NeverS P (Go.stuck m : Sem α) := by
  intro w y w1 h; simp [Go.stuck] at h
theorem NeverS.unsupported {α : Type} (m : Unsupported) : NeverS P (Go.unsupported m : Sem α) := by
  intro w y w1 h; simp [Go.unsupported] at h
theorem NeverS.goPanic {α : Type} (v : Value) : NeverS P (Go.goPanic v : Sem α) := by
  intro w y w1 h; simp [Go.goPanic] at h
theorem NeverS.bind {α β : Type} {s : Sem α} {f : α → Sem β} (hf : ∀ x, NeverS P (f x)) : NeverS P (s >>= f) := by
  intro w y w1 e
  simp only [Sem.run_bind] at e
  cases hs : s.run P w with
  | halt q w2 => rw [hs] at e; simp at e
  | ok x w2 => rw [hs] at e; exact hf _ _ _ _ e
theorem FreeS.bind {α β : Type} {s : Sem α} {f : α → Sem β} (h : FreeS P s) (hf : ∀ x, FreeS P (f x)) : FreeS P (s >>= f) := by
  intro w y w1 e
  simp only [Sem.run_bind] at e
  cases hs : s.run P w with
  | halt q w2 => rw [hs] at e; simp at e
  | ok x w2 =>
    rw [hs] at e; simp only [Result.andThen_ok] at e
    obtain ⟨rfl, h2⟩ := h _ _ _ hs
    obtain ⟨rfl, h3⟩ := hf x _ _ _ e
    refine ⟨rfl, fun w' => ?_⟩
    simp only [Sem.run_bind, h2 w', Result.andThen_ok, h3 w']
theorem CalmS.bind {α β : Type} {s : Sem α} {f : α → Sem β} (h : CalmS P s) (hf : ∀ x, CalmS P (f x)) : CalmS P (s >>= f) := by
  intro w y w1 e
  simp only [Sem.run_bind] at e
  cases hs : s.run P w with
  | halt q w2 => rw [hs] at e; simp at e
  | ok x w2 =>
    rw [hs] at e; simp only [Result.andThen_ok] at e
    rw [← h _ _ _ hs]
    exact hf x _ _ _ e
theorem FreeS.program {α : Type} {k : Program → Sem α} (h : FreeS P (k P)) : FreeS P (Sem.program k) := fun w x w1 e => h w x w1 e
theorem FreeS.underlying (t : TypeId) : FreeS P (Go.underlying t) := by
  unfold Go.underlying Go.program
  refine FreeS.bind (FreeS.program (FreeS.pure _)) fun x => ?_
  split
  · exact FreeS.pure _
  · exact (NeverS.stuck _).free
theorem FreeS.typeInfo (t : TypeId) : FreeS P (Go.typeInfo t) := by
  unfold Go.typeInfo Go.program
  refine FreeS.bind (FreeS.program (FreeS.pure _)) fun x => ?_
  split
  · exact FreeS.pure _
  · exact (NeverS.stuck _).free
theorem FreeS.sizeOf (t : TypeId) : FreeS P (Go.sizeOf t) := FreeS.bind (FreeS.typeInfo t) fun _ => FreeS.pure _
theorem NeverS.runtimePanic {α : Type} (e : RuntimeError) : NeverS P (Go.runtimePanic e : Sem α) := by
  unfold Go.runtimePanic
  refine NeverS.bind fun p => ?_
  cases e <;> simp only [] <;> first | exact NeverS.goPanic _ | exact NeverS.bind fun _ => NeverS.goPanic _ | exact NeverS.bind fun _ => NeverS.bind fun _ => NeverS.goPanic _
theorem NeverS.boundsPanic {α : Type} (k : IntKind) (x y : Int) (c : BoundsCode) : NeverS P (Go.boundsPanic k x y c : Sem α) := by
  unfold Go.boundsPanic
  split
  · exact NeverS.bind fun _ => NeverS.runtimePanic _
  · exact NeverS.bind fun _ => NeverS.runtimePanic _
theorem FreeS.bindOk {α β : Type} {s : Sem α} {f : α → Sem β} {x : α} (hs : ∀ w, s.run P w = .ok x w) (hf : FreeS P (f x)) : FreeS P (s >>= f) := by
  intro w y w1 e
  simp only [Sem.run_bind, hs, Result.andThen_ok] at e ⊢
  exact hf w y w1 e
theorem FreeS.asIntOf (v : Value) : FreeS P (Go.asIntOf v) := by
  unfold Go.asIntOf; split <;> first | exact FreeS.pure _ | exact (NeverS.stuck _).free | exact (NeverS.unsupported _).free
theorem FreeS.asBool (v : Value) : FreeS P (Go.asBool v) := by
  unfold Go.asBool; split <;> first | exact FreeS.pure _ | exact (NeverS.stuck _).free
theorem FreeS.sureAddr (v : Value) : FreeS P (Instr.sureAddr v) := by
  unfold Instr.sureAddr; split <;> first | exact FreeS.pure _ | exact (NeverS.stuck _).free
theorem FreeS.ite {α : Type} {c : Prop} [Decidable c] {s t : Sem α} (h : FreeS P s) (h' : FreeS P t) : FreeS P (if c then s else t) := by split <;> assumption

/-! ### the operations -/
theorem FreeS.sliceBound (x : Value) (y : Nat) (c : BoundsCode) : FreeS P (Instr.sliceBound x y c) := by
  unfold Instr.sliceBound
  refine FreeS.bind (FreeS.asIntOf _) fun p => ?_
  exact FreeS.ite (FreeS.pure _) (NeverS.boundsPanic _ _ _ _).free
theorem FreeS.sliceBounds (s : Bool) (l c : Nat) (lo hi mx : Option Value) : FreeS P (Instr.sliceBounds s l c lo hi mx) := by
  unfold Instr.sliceBounds
  cases lo <;> cases hi <;> cases mx <;> simp only [] <;>
    (repeat (first | exact FreeS.pure _ | exact (NeverS.stuck _).free | exact FreeS.sliceBound _ _ _ | exact (NeverS.bind fun _ => NeverS.stuck _).free | refine FreeS.bind ?_ fun _ => ?_))
theorem FreeS.slice {t e : TypeId} (ht : P.underlying t = some (.slice e)) (x : Value) (lo hi mx : Option Value) : FreeS P (Instr.sliceAt t x lo hi mx) := by
  have hu : ∀ w, (Go.underlying t).run P w = .ok (.slice e) w := run_underlying ht
  unfold Instr.sliceAt
  refine FreeS.bindOk hu ?_
  simp only []
  unfold Instr.slice
  refine FreeS.bindOk hu ?_
  cases x <;> simp only [] <;> first | exact (NeverS.stuck _).free | skip
  refine FreeS.bind (FreeS.sliceBounds _ _ _ _ _ _) fun _ => FreeS.bind (FreeS.sizeOf _) fun _ => FreeS.pure _
theorem FreeS.indexAt {t e : TypeId} (ht : P.underlying t = some (.slice e)) (x i : Value) : FreeS P (Instr.indexAt t x i) := by
  have hu : ∀ w, (Go.underlying t).run P w = .ok (.slice e) w := run_underlying ht
  unfold Instr.indexAt
  refine FreeS.bind (FreeS.asIntOf _) fun p => ?_
  refine FreeS.bindOk hu ?_
  cases x <;> simp only [] <;> first | exact (NeverS.bind fun _ => NeverS.stuck _).free | exact (NeverS.stuck _).free | skip
  rename_i a l c
  refine FreeS.bind (FreeS.pure _) fun p => ?_
  refine FreeS.bindOk hu ?_
  cases hp : p.1 with
  | none => exact (NeverS.boundsPanic _ _ _ _).free
  | some a =>
    refine FreeS.ite (FreeS.bind (FreeS.sizeOf _) fun _ => FreeS.pure _) (FreeS.ite (NeverS.unsupported _).free (NeverS.boundsPanic _ _ _ _).free)
theorem FreeS.fieldAt {s : TypeId} {fs : Array Field} {f : Nat} {fl : Field} (hs : P.underlying s = some (.struct fs)) (hf : fs[f]? = some fl) (hz : P.cellsOf fl.type ≠ 0) {i : TypeInfo} (hi : P.info? fl.type = some i) (x : Value) : FreeS P (Instr.fieldAt s x f) := by
  have hu : ∀ w, (Go.underlying s).run P w = .ok (.struct fs) w := run_underlying hs
  have hsz : ∀ w, (Go.sizeOf fl.type).run P w = .ok (P.cellsOf fl.type) w := fun w => run_sizeOf (w := w) hi
  unfold Instr.fieldAt
  refine FreeS.bindOk hu ?_
  simp only [hf]
  refine FreeS.bind (FreeS.sureAddr _) fun a => ?_
  refine FreeS.bind ?_ fun _ => FreeS.pure _
  unfold fieldPlace
  refine FreeS.bindOk hsz ?_
  rw [if_neg hz]
  exact FreeS.pure _

/-! ### 'extract', 'makeInterface', 'nilCheck', 'pick' -/
theorem FreeS.extract (t : Value) (i : Nat) : FreeS P (Instr.extract t i) := by
  unfold Instr.extract; split
  · split
    · exact FreeS.pure _
    · exact (NeverS.stuck _).free
  · exact (NeverS.stuck _).free
theorem FreeS.makeInterface (t : TypeId) (x : Value) : FreeS P (Instr.makeInterface t x) := by
  unfold Instr.makeInterface
  refine FreeS.bind (FreeS.underlying _) fun d => ?_
  split
  · exact (NeverS.stuck _).free
  · exact FreeS.pure _

theorem FreeS.part (t : TypeId) (cs : Array Value) (n : Nat) : FreeS P (Go.part t cs n) := by
  unfold Go.part
  repeat (first | exact FreeS.pure _ | exact FreeS.sizeOf _ | exact FreeS.underlying _ | exact (NeverS.stuck _).free | refine FreeS.ite ?_ ?_ | refine FreeS.bind ?_ fun _ => ?_ | split)
theorem FreeS.followBlind : ∀ (l : List FieldStep) (t : TypeId) (x : Option Value), FreeS P (followBlind l t x)
  | [], t, x => FreeS.pure _
  | s :: rest, t, x => by
    unfold Go.followBlind
    refine FreeS.bind (FreeS.underlying _) fun d => ?_
    split
    · split
      · split <;> first | exact FreeS.pure _ | exact (NeverS.stuck _).free | exact FreeS.followBlind _ _ _ | exact FreeS.bind (FreeS.part _ _ _) fun _ => FreeS.followBlind _ _ _
      · exact (NeverS.stuck _).free
    · exact (NeverS.stuck _).free
theorem FreeS.nilAhead : ∀ (n : Nat) (t : TypeId) (v : Value) (m : String), FreeS P (nilAhead n t v m)
  | 0, _, _, _ => FreeS.pure _
  | n + 1, t, v, m => by
    unfold Go.nilAhead
    refine FreeS.bind (FreeS.typeInfo _) fun i => ?_
    split
    · refine FreeS.bind (FreeS.followBlind _ _ _) fun r => ?_
      split
      · exact FreeS.pure _
      · split <;> first | exact FreeS.pure _ | exact (NeverS.stuck _).free | exact FreeS.nilAhead _ _ _ _ | skip
        refine FreeS.bind (FreeS.underlying _) fun d => ?_
        split <;> exact FreeS.pure _
    · exact (NeverS.stuck _).free
theorem FreeS.goProgram : FreeS P Go.program := FreeS.program (FreeS.pure _)
theorem FreeS.len {ats : Array TypeId} {t e : TypeId} (h0 : ats[0]? = some t) (ht : P.underlying t = some (.slice e)) (ty : TypeId) (xs : Array Value) : FreeS P (Builtin.len_ ats ty xs) := by
  have hu : ∀ w, (Go.underlying t).run P w = .ok (.slice e) w := run_underlying ht
  unfold Builtin.len_
  rw [h0]
  cases hx : xs[0]? with
  | none => exact (NeverS.stuck _).free
  | some x =>
    simp only []
    refine FreeS.bindOk hu ?_
    cases x <;> simp only [] <;> first | exact FreeS.pure _ | exact (NeverS.stuck _).free

/-! ### levels -/
/-- an operation that reads at most (by its kind; that it does so here is reckoned at the operation) -/
def calmCall (c : Call) : Bool := match c.callee with | .builtin .len | .builtin .cap | .builtin .min | .builtin .max => true | _ => false
def calmOp (o : Oper) : Bool := match o.op with
  | .move _ | .assign _ | .pick .. | .nilCheck _ | .fieldAddr .. | .load .. | .binOp .. | .unOp .. | .convert .. | .slice .. | .indexAddr .. | .index .. | .field .. | .extract .. | .makeInterface .. | .build .. | .typeAssert .. | .makeFunc .. => true
  | .call c => calmCall c
  | _ => false
def sliceT (P : Program) (t : TypeId) : Bool := match P.underlying t with | some (.slice _) => true | _ => false
def fieldOk (P : Program) (s : TypeId) (f : Nat) : Bool := match P.underlying s with
  | some (.struct fs) => match fs[f]? with
    | some fl => (P.info? fl.type).isSome && P.cellsOf fl.type != 0
    | none => false
  | _ => false
def nilPlain (a : Act) (x : Operand) : Prop := ∀ n fs cs, a.eval x ≠ .func (.method n) fs cs
def freeCall (P : Program) (c : Call) : Bool := match c.callee with | .builtin .len => (match c.argTypes[0]? with | some t => sliceT P t | none => false) | _ => false
/-- an operation whose value does not hang on the world -/
def freeOp (P : Program) (o : Oper) : Bool := match o.op with
  | .move _ | .assign _ | .pick .. | .extract .. | .makeInterface .. | .makeFunc .. => true
  | .fieldAddr s _ f => fieldOk P s f
  | .slice t .. | .indexAddr t .. => sliceT P t
  | .nilCheck _ => true
  | .call c => freeCall P c
  | _ => false
theorem freeOp_calm {o : Oper} (h : freeOp P o = true) : calmOp o = true := by
  unfold freeOp at h; unfold calmOp
  cases ho : o.op <;> simp only [ho] at h ⊢ <;> try (cases h; done)
  unfold freeCall at h; unfold calmCall
  split at h
  · rename_i heq; rw [heq]
  · cases h
theorem sliceT_spec {t : TypeId} (h : sliceT P t = true) : ∃ e, P.underlying t = some (.slice e) := by
  unfold sliceT at h; split at h
  · rename_i e he; exact ⟨e, he⟩
  · cases h
theorem freeOp_free {o : Oper} (h : freeOp P o = true) (ρ : Operand → Value) : FreeS P (execOp ρ o) := by
  unfold freeOp at h; unfold execOp
  cases ho : o.op <;> simp only [ho] at h ⊢ <;> try (cases h; done)
  case move => exact FreeS.pure _
  case assign => exact FreeS.pure _
  case pick => exact FreeS.bind (FreeS.asBool _) fun _ => FreeS.pure _
  case nilCheck x =>
    split <;> first | exact (NeverS.runtimePanic _).free | exact FreeS.pure _ | skip
    split <;> first | exact (NeverS.runtimePanic _).free | exact FreeS.pure _ | skip
    refine FreeS.bind FreeS.goProgram fun p => FreeS.bind (FreeS.nilAhead _ _ _ _) fun r => ?_
    split
    · exact FreeS.bind (NeverS.unsupported _).free fun _ => FreeS.pure _
    · exact FreeS.pure _
  case call c =>
    unfold freeCall at h
    split at h
    · rename_i heq
      split at h
      · rename_i t ht
        obtain ⟨e, he⟩ := sliceT_spec h
        unfold resolve; rw [heq]
        refine FreeS.bindOk (fun w => rfl) ?_
        exact FreeS.bind (FreeS.len ht he _ _) fun _ => FreeS.pure _
      · cases h
    · cases h
  case extract => exact FreeS.bind (FreeS.extract _ _) fun _ => FreeS.pure _
  case makeFunc => exact FreeS.bind (FreeS.pure _) fun _ => FreeS.pure _
  case makeInterface => exact FreeS.bind (FreeS.makeInterface _ _) fun _ => FreeS.pure _
  case slice => obtain ⟨e, he⟩ := sliceT_spec h; exact FreeS.bind (FreeS.slice he _ _ _ _) fun _ => FreeS.pure _
  case indexAddr => obtain ⟨e, he⟩ := sliceT_spec h; exact FreeS.bind (FreeS.indexAt he _ _) fun _ => FreeS.pure _
  case fieldAddr s x f =>
    unfold fieldOk at h
    split at h
    · rename_i fs hs
      split at h
      · rename_i fl hf
        simp only [Bool.and_eq_true, bne_iff_ne, ne_eq] at h
        obtain ⟨i, hi⟩ := Option.isSome_iff_exists.1 h.1
        exact FreeS.bind (FreeS.fieldAt hs hf h.2 hi _) fun _ => FreeS.pure _
      · cases h
    · cases h

/-! ### a region whose order is open, walked in the order of the text -/
/-- a way out by a panic, or by want of room, is none -/
def NoP (Q : Exit → Act → World → Prop) : Prop := (∀ c a w, ¬ Q (.panic c) a w) ∧ ∀ a w, ¬ Q .outgrown a w
/-- a call comes back with a value -/
def Ret (p : Value → World → Prop) : Ending → World → Prop
  | .returned v, w => p v w
  | _, _ => False
theorem NoP.then {K : Act → World → Prop} {Q : Exit → Act → World → Prop} (h : NoP Q) : NoP (Exit.then K Q) := h
theorem NoP.inBlock {i : Nat} {Q : Exit → Act → World → Prop} (h : NoP Q) : NoP (Exit.inBlock i Q) := h
theorem NoP.body {fn : Func} {p : Value → World → Prop} : NoP (bodyPost P fn (Ret p)) := ⟨fun _ _ _ h => h.2, fun _ _ h => h⟩

def ValS (P : Program) (s : Sem Next) : Prop := ∀ w n w1, s.run P w = .ok n w1 → ∃ v, n = .value v
theorem ValS.mk {s : Sem Value} : ValS P (do pure (.value (← s))) := by
  intro w n w1 h
  simp only [Sem.run_bind] at h
  cases hs : s.run P w with
  | halt q w2 => rw [hs] at h; simp at h
  | ok x w2 => rw [hs] at h; simp at h; exact ⟨x, h.1.symm⟩
theorem ValS.pure (v : Value) : ValS P (Pure.pure (.value v)) := by intro w n w1 h; simp at h; exact ⟨v, h.1.symm⟩
theorem ValS.never {s : Sem Next} (h : NeverS P s) : ValS P s := fun w n w1 e => (h w n w1 e).elim
theorem ValS.bind {α : Type} {s : Sem α} {f : α → Sem Next} (hf : ∀ x, ValS P (f x)) : ValS P (s >>= f) := by
  intro w n w1 h
  simp only [Sem.run_bind] at h
  cases hs : s.run P w with
  | halt q w2 => rw [hs] at h; simp at h
  | ok x w2 => rw [hs] at h; exact hf x _ _ _ h
theorem calm_value {o : Oper} (h : calmOp o = true) (ρ : Operand → Value) : ValS P (execOp ρ o) := by
  unfold calmOp at h; unfold execOp
  cases ho : o.op <;> simp only [ho] at h ⊢ <;> (try (cases h; done)) <;> (try exact ValS.mk) <;> (try exact ValS.pure _)
  case pick => exact ValS.bind fun _ => ValS.pure _
  case nilCheck x =>
    split <;> first | exact ValS.never (NeverS.runtimePanic _) | exact ValS.pure _ | skip
    split <;> first | exact ValS.never (NeverS.runtimePanic _) | exact ValS.pure _ | skip
    refine ValS.bind fun p => ValS.bind fun r => ?_
    split
    · exact ValS.bind fun _ => ValS.pure _
    · exact ValS.pure _
  case call c =>
    unfold calmCall at h
    unfold resolve
    split at h <;> first | (cases h; done) | (rename_i heq; rw [heq]; exact ValS.mk)
theorem freeOp_value {o : Oper} (hf : freeOp P o = true) {a : Act} {w : World} {v : Value} (h : (execOp a.eval o).run P w = .ok (.value v) w) (w' : World) : (execOp a.eval o).run P w' = .ok (.value v) w' := (freeOp_free hf _ _ _ _ h).2 w'
/-- a call that only reads: 'qd' names the slots that such calls of the region write -/
def quietCall (qd : List Tmp) (o : Oper) : Bool := match o.op with | .call _ => (match o.dst with | some d => qd.contains d | none => false) | _ => false
def calmQ (qd : List Tmp) (o : Oper) : Bool := calmOp o || quietCall qd o
/-- it yields 'v' and leaves the world -/
def stillV (P : Program) (o : Oper) (a : Act) (w : World) (v : Value) : Prop :=
  (execOp a.eval o).run P w = .ok (.value v) w ∨ ∃ f args, (execOp a.eval o).run P w = .ok (.enter f args) w ∧ Calls P f args w (fun e w' => e = .returned v ∧ w' = w)
theorem stillV.wp {o : Oper} {a : Act} {w : World} {v : Value} {K : Act → World → Prop} {Q : Exit → Act → World → Prop} (h : stillV P o a w v) (hk : K (a.put o.dst v) w) : o.wp P a w K Q := by
  unfold Oper.wp
  rcases h with h | ⟨f, args, h, hc⟩
  · rw [h]; exact hk
  · rw [h]; exact hc.mono fun e w' ⟨he, hw⟩ => by subst he; subst hw; exact hk
theorem stillV.same {o : Oper} {a a' : Act} {w : World} {v : Value} (h : stillV P o a w v) (he : execOp a'.eval o = execOp a.eval o) : stillV P o a' w v := by
  unfold stillV at *; rw [he]; exact h
theorem freeOp_calmQ {qd : List Tmp} {o : Oper} (h : freeOp P o = true) : calmQ qd o = true := by unfold calmQ; rw [freeOp_calm h]; rfl
theorem stillV.value {o : Oper} {a : Act} {w : World} {v : Value} (hf : freeOp P o = true) (h : stillV P o a w v) : (execOp a.eval o).run P w = .ok (.value v) w := by
  rcases h with h | ⟨f, args, h, _⟩
  · exact h
  · obtain ⟨u, hu⟩ := calm_value (freeOp_calm hf) _ _ _ _ h; cases hu
/-- 'qd': the slots of calls that only read · 'ld': of loads whose cell is known in every world that came of 'w0' by new blocks alone · 'gd': of operations that make new blocks and turn nothing else -/
structure Par where
  qd : List Tmp := []
  ld : List Tmp := []
  gd : List Tmp := []
def inD (l : List Tmp) (o : Oper) : Bool := match o.dst with | some d => l.contains d | none => false
def stillO (p : Par) (o : Oper) : Bool := inD p.ld o || calmQ p.qd o
def freeO (P : Program) (p : Par) (o : Oper) : Bool := freeOp P o && !inD p.ld o
def growO (p : Par) (o : Oper) : Bool := inD p.gd o && !stillO p o
/-- likewise, at a function that is no initialiser: so the value is one -/
def stillR (P : Program) (o : Oper) (a : Act) (w : World) (v : Value) : Prop :=
  (execOp a.eval o).run P w = .ok (.value v) w ∨ ∃ f args, (execOp a.eval o).run P w = .ok (.enter f args) w ∧ P.inits.idxOf? f = none ∧ Calls P f args w (fun | .returned v', w' => v' = v ∧ w' = w | _, _ => False)
theorem stillR.still {o : Oper} {a : Act} {w : World} {v : Value} (h : stillR P o a w v) : stillV P o a w v := by
  rcases h with h | ⟨f, args, h, _, hc⟩
  · exact .inl h
  · refine .inr ⟨f, args, h, hc.mono fun e w' he => ?_⟩
    cases e with
    | returned u => exact ⟨congrArg _ he.1, he.2⟩
    | panicked c => exact he.elim
    | outgrown => exact he.elim
theorem stillR.uniq {o : Oper} {a : Act} {w : World} {v u : Value} (h : stillR P o a w v) (h' : stillR P o a w u) : v = u := by
  rcases h with h | ⟨f, args, h, hi, hc⟩
  · rcases h' with h' | ⟨f', args', h', _, _⟩
    · rw [h] at h'; simpa using h'
    · rw [h] at h'; cases h'
  · rcases h' with h' | ⟨f', args', h', _, hc'⟩
    · rw [h] at h'; cases h'
    · rw [h] at h'
      simp only [Result.ok.injEq, Next.enter.injEq, and_true] at h'
      obtain ⟨rfl, rfl⟩ := h'
      obtain ⟨n, v1, w1, e1, rfl, _⟩ := Calls.done (R := fun v' w' => v' = v ∧ w' = w) hc hi
      obtain ⟨m, v2, w2, e2, rfl, _⟩ := Calls.done (R := fun v' w' => v' = u ∧ w' = w) hc' hi
      have a1 := runN_ended e1 m
      have b1 := runN_ended e2 n
      rw [Nat.add_comm, a1] at b1
      injection b1 with ho
      injection ho
theorem stillR.same {o : Oper} {a a' : Act} {w : World} {v : Value} (h : stillR P o a w v) (he : execOp a'.eval o = execOp a.eval o) : stillR P o a' w v := by
  unfold stillR at *; rw [he]; exact h
def Robust (P : Program) (o : Oper) (a : Act) (w0 : World) (v : Value) : Prop := ∀ w', New w0 w' → stillR P o a w' v
theorem Robust.same {o : Oper} {a a' : Act} {w0 : World} {v : Value} (h : Robust P o a w0 v) (he : execOp a'.eval o = execOp a.eval o) : Robust P o a' w0 v := by
  exact fun w' hn => (h w' hn).same he
theorem Robust.still {o : Oper} {a : Act} {w0 w : World} {v : Value} (h : Robust P o a w0 v) (hn : New w0 w) : stillV P o a w v := (h w hn).still
def effP (P : Program) (p : Par) (w0 : World) (Q : Exit → Act → World → Prop) (o : Oper) (K : Act → World → Prop) (a : Act) (w : World) : Prop :=
  if inD p.gd o then New w0 w ∧ o.wp P a w (fun a' w' => New w w' ∧ K a' w') Q else o.wp P a w K Q
def stepP (P : Program) (p : Par) (w0 : World) (Q : Exit → Act → World → Prop) (o : Oper) (K : Act → World → Prop) (a : Act) (w : World) : Prop :=
  if inD p.ld o then ∃ v, Robust P o a w0 v ∧ New w0 w ∧ K (a.put o.dst v) w
  else if calmQ p.qd o then ∃ v, stillV P o a w v ∧ K (a.put o.dst v) w
  else effP P p w0 Q o K a w
def lxOp (P : Program) (p : Par) (w0 : World) (ops : Array Oper) (Q : Exit → Act → World → Prop) (i : Nat) (K : Act → World → Prop) (a : Act) (w : World) : Prop :=
  match ops[i]? with
  | none => K a w
  | some o => if Region.wanted o (yielded ops a.tmps) then stepP P p w0 Q o K a w else K (a.put o.dst undef) w
def wpLx (P : Program) (p : Par) (w0 : World) (ops : Array Oper) (Q : Exit → Act → World → Prop) : List Oper → Act → World → Prop
  | [], a, w => Q .normal a w
  | o :: rest, a, w => if Region.wanted o (yielded ops a.tmps) then stepP P p w0 Q o (wpLx P p w0 ops Q rest) a w else wpLx P p w0 ops Q rest (a.put o.dst undef) w
variable {p : Par} {w0 : World} {ops : Array Oper} {Q : Exit → Act → World → Prop}
theorem effP_mono {o : Oper} {a : Act} {w : World} {K K' : Act → World → Prop} (h : ∀ a w, K a w → K' a w) (hh : effP P p w0 Q o K a w) : effP P p w0 Q o K' a w := by
  unfold effP at *
  split
  · rename_i hg; rw [if_pos hg] at hh; exact ⟨hh.1, Oper.wp_mono (fun a w q => ⟨q.1, h _ _ q.2⟩) hh.2⟩
  · rename_i hg; rw [if_neg hg] at hh; exact Oper.wp_mono h hh
theorem stepP_mono {o : Oper} {a : Act} {w : World} {K K' : Act → World → Prop} (h : ∀ a w, K a w → K' a w) (hh : stepP P p w0 Q o K a w) : stepP P p w0 Q o K' a w := by
  unfold stepP at *
  split
  · rename_i hl; rw [if_pos hl] at hh; obtain ⟨v, h1, h2, h3⟩ := hh; exact ⟨v, h1, h2, h _ _ h3⟩
  · rename_i hl; rw [if_neg hl] at hh
    split
    · rename_i hc; rw [if_pos hc] at hh; obtain ⟨v, h1, h2⟩ := hh; exact ⟨v, h1, h _ _ h2⟩
    · rename_i hc; rw [if_neg hc] at hh; exact effP_mono h hh
theorem stepP_wp {o : Oper} {a : Act} {w : World} {K : Act → World → Prop} (hh : stepP P p w0 Q o K a w) : o.wp P a w K Q := by
  unfold stepP at hh
  split at hh
  · obtain ⟨v, h1, h2, h3⟩ := hh; exact (h1.still h2).wp h3
  · split at hh
    · obtain ⟨v, h1, h2⟩ := hh; exact h1.wp h2
    · unfold effP at hh
      split at hh
      · exact Oper.wp_mono (fun _ _ q => q.2) hh.2
      · exact hh
theorem lxOp_mono {i : Nat} {a : Act} {w : World} {K K' : Act → World → Prop} (h : ∀ a w, K a w → K' a w) (hh : lxOp P p w0 ops Q i K a w) : lxOp P p w0 ops Q i K' a w := by
  unfold lxOp at *
  cases ho : ops[i]? with
  | none => simp only [ho] at hh ⊢; exact h _ _ hh
  | some o =>
    simp only [ho] at hh ⊢
    split
    · rename_i hw; rw [if_pos hw] at hh; exact stepP_mono h hh
    · rename_i hw; rw [if_neg hw] at hh; exact h _ _ hh
theorem lxOp_wpOp {i : Nat} {a : Act} {w : World} {K : Act → World → Prop} (hh : lxOp P p w0 ops Q i K a w) : wpOp P ops Q i K a w := by
  unfold lxOp at hh; unfold wpOp
  cases ho : ops[i]? with
  | none => simp only [ho] at hh ⊢; exact hh
  | some o =>
    simp only [ho] at hh ⊢
    split
    · rename_i hw; rw [if_pos hw] at hh; exact .inl (stepP_wp hh)
    · rename_i hw; rw [if_neg hw] at hh; exact hh
/-- what an operation that only reads, or that is passed over, leaves -/
def Yl (P : Program) (p : Par) (w0 : World) (ops : Array Oper) (o : Oper) (v : Value) (a : Act) (w : World) : Prop :=
  (Region.wanted o (yielded ops a.tmps) = true ∧ ((inD p.ld o = true ∧ Robust P o a w0 v ∧ New w0 w) ∨ (inD p.ld o = false ∧ calmQ p.qd o = true ∧ stillV P o a w v))) ∨ (Region.wanted o (yielded ops a.tmps) = false ∧ v = undef)
theorem lx_of_Yl {i : Nat} {o : Oper} (ho : ops[i]? = some o) {v : Value} {a : Act} {w : World} {K : Act → World → Prop} (h : Yl P p w0 ops o v a w) (hk : K (a.put o.dst v) w) : lxOp P p w0 ops Q i K a w := by
  unfold lxOp; simp only [ho]
  rcases h with ⟨h1, h⟩ | ⟨h1, rfl⟩
  · rw [if_pos h1]
    unfold stepP
    rcases h with ⟨h2, h3, h4⟩ | ⟨h2, h3, h4⟩
    · rw [if_pos h2]; exact ⟨v, h3, h4, hk⟩
    · rw [if_neg (by simp [h2]), if_pos h3]; exact ⟨v, h4, hk⟩
  · rw [if_neg (by simp [h1])]; exact hk
theorem Yl_of_lx {i : Nat} {o : Oper} (ho : ops[i]? = some o) {a : Act} {w : World} {K : Act → World → Prop} (h : lxOp P p w0 ops Q i K a w) (hc : stillO p o = true ∨ Region.wanted o (yielded ops a.tmps) = false) : ∃ v, Yl P p w0 ops o v a w ∧ K (a.put o.dst v) w := by
  unfold lxOp at h; simp only [ho] at h
  by_cases hw : Region.wanted o (yielded ops a.tmps) = true
  · rcases hc with hc | hc
    · rw [if_pos hw] at h
      unfold stepP at h
      split at h
      · rename_i hl; obtain ⟨v, h1, h2, h3⟩ := h; exact ⟨v, .inl ⟨hw, .inl ⟨hl, h1, h2⟩⟩, h3⟩
      · rename_i hl
        have hl' : inD p.ld o = false := by simpa using hl
        have hq : calmQ p.qd o = true := by simpa [stillO, hl'] using hc
        rw [if_pos hq] at h; obtain ⟨v, h1, h2⟩ := h; exact ⟨v, .inl ⟨hw, .inr ⟨hl', hq, h1⟩⟩, h2⟩
    · rw [hw] at hc; cases hc
  · rw [if_neg hw] at h; exact ⟨undef, .inr ⟨by simpa using hw, rfl⟩, h⟩
theorem Yl.same {o : Oper} {v : Value} {a a' : Act} {w : World} (h : Yl P p w0 ops o v a w) (he : execOp a'.eval o = execOp a.eval o) (hw : Region.wanted o (yielded ops a'.tmps) = Region.wanted o (yielded ops a.tmps)) : Yl P p w0 ops o v a' w := by
  unfold Yl at *; rw [hw]
  exact h.imp (fun ⟨a, b⟩ => ⟨a, b.imp (fun ⟨c, d, e⟩ => ⟨c, d.same he, e⟩) (fun ⟨c, d, e⟩ => ⟨c, d, e.same he⟩)⟩) id
theorem freeO_spec {o : Oper} (h : freeO P p o = true) : freeOp P o = true ∧ inD p.ld o = false := by
  unfold freeO at h; simpa using h
theorem Yl.free {o : Oper} {v : Value} {a : Act} {w : World} (hf : freeO P p o = true ∨ Region.wanted o (yielded ops a.tmps) = false) (h : Yl P p w0 ops o v a w) (w' : World) : Yl P p w0 ops o v a w' := by
  rcases h with ⟨h1, h⟩ | h
  · rcases hf with hf | hf
    · obtain ⟨hf, hl⟩ := freeO_spec hf
      rcases h with ⟨h2, _⟩ | ⟨h2, h3, h4⟩
      · rw [hl] at h2; cases h2
      · exact .inl ⟨h1, .inr ⟨h2, h3, .inl (freeOp_value hf (h4.value hf) w')⟩⟩
    · rw [h1] at hf; cases hf
  · exact .inr h
/-- a load that is known: in any world that came by new blocks -/
theorem Yl.load {o : Oper} {v : Value} {a : Act} {w : World} (hl : inD p.ld o = true) (h : Yl P p w0 ops o v a w) {w' : World} (hn : New w0 w') : Yl P p w0 ops o v a w' := by
  rcases h with ⟨h1, h⟩ | h
  · rcases h with ⟨h2, h3, _⟩ | ⟨h2, _⟩
    · exact .inl ⟨h1, .inl ⟨h2, h3, hn⟩⟩
    · rw [hl] at h2; cases h2
  · exact .inr h
/-- what follows an operation with effects is reached -/
theorem wp_reach {o : Oper} {a : Act} {w : World} {K : Act → World → Prop} (hQ : NoP Q) (h : o.wp P a w K Q) : ∃ v ds w', K (Act.put { a with defers := ds } o.dst v) w' := by
  unfold Oper.wp at h
  cases hr : (execOp a.eval o).run P w with
  | halt q w1 =>
    rw [hr] at h
    cases q <;> simp only [Oper.upon] at h
    exact (hQ.1 _ _ _ h).elim
  | ok n w1 =>
    rw [hr] at h
    cases n <;> simp only [Oper.upon] at h
    case value v => exact ⟨v, a.defers, w1, h⟩
    case skip => exact ⟨undef, a.defers, w1, h⟩
    case enter f args =>
      obtain ⟨e, w2, fr, hR, _⟩ := h []
      cases e with
      | returned v => exact ⟨v, a.defers, w2, hR⟩
      | panicked c => exact (hQ.1 _ _ _ hR).elim
      | outgrown => obtain ⟨a0, w0, h0⟩ := hR; exact (hQ.2 _ _ h0).elim
    case row r args =>
      obtain ⟨v, w2, hR, _⟩ := h default []
      exact ⟨v, a.defers, w2, hR⟩
    case defer d => exact ⟨undef, d :: a.defers, w1, h⟩
theorem put_defers_eval (a : Act) (ds : List Deferred) (d : Option Tmp) (v : Value) : (Act.put { a with defers := ds } d v).eval = (a.put d v).eval := by cases d <;> rfl
theorem put_defers_tmps (a : Act) (ds : List Deferred) (d : Option Tmp) (v : Value) : (Act.put { a with defers := ds } d v).tmps = (a.put d v).tmps := by cases d <;> rfl
/-- an operation with effects, in another frame that it can't tell from this one -/
theorem wp_put {o : Oper} {a a' : Act} {w : World} {K K' : Act → World → Prop} (hQ : NoP Q) (he : execOp a'.eval o = execOp a.eval o) (hds : a'.defers = a.defers)
    (hk : ∀ v ds w', K (Act.put { a with defers := ds } o.dst v) w' → K' (Act.put { a' with defers := ds } o.dst v) w') (h : o.wp P a w K Q) : o.wp P a' w K' Q := by
  have e1 : { a with defers := a.defers } = a := rfl
  have e2 : { a' with defers := a.defers } = a' := by rw [← hds]
  have hk0 : ∀ v w', K (a.put o.dst v) w' → K' (a'.put o.dst v) w' := fun v w' hh => by have := hk v a.defers w' hh; rwa [e2] at this
  unfold Oper.wp at h ⊢
  rw [he]
  cases hr : (execOp a.eval o).run P w with
  | halt q w1 =>
    rw [hr] at h
    cases q <;> simp only [Oper.upon] at h ⊢
    exact (hQ.1 _ _ _ h).elim
  | ok n w1 =>
    rw [hr] at h
    cases n <;> simp only [Oper.upon] at h ⊢
    case value v => exact hk0 _ _ h
    case skip => exact hk0 _ _ h
    case enter f args =>
      refine h.mono fun e w2 hR => ?_
      cases e with
      | returned v => exact hk0 _ _ hR
      | panicked c => exact (hQ.1 _ _ _ hR).elim
      | outgrown => exact hR
    case row r args => exact h.mono fun v w2 hR => hk0 _ _ hR
    case defer d => have := hk undef (d :: a.defers) w1 h; rwa [← hds] at this
theorem Act.put_defers (a : Act) (d : Option Tmp) (v : Value) : (a.put d v).defers = a.defers := by cases d <;> rfl
theorem Act.put_with (a : Act) (ds : List Deferred) (d : Option Tmp) (v : Value) : { a.put d v with defers := ds } = Act.put { a with defers := ds } d v := by cases d <;> rfl

theorem effP_put {o : Oper} {a a' : Act} {w : World} {K K' : Act → World → Prop} (hQ : NoP Q) (he : execOp a'.eval o = execOp a.eval o) (hds : a'.defers = a.defers)
    (hk : ∀ v ds w', (inD p.gd o = true → New w0 w ∧ New w w') → K (Act.put { a with defers := ds } o.dst v) w' → K' (Act.put { a' with defers := ds } o.dst v) w') (h : effP P p w0 Q o K a w) : effP P p w0 Q o K' a' w := by
  unfold effP at *
  split
  · rename_i hg; rw [if_pos hg] at h
    exact ⟨h.1, wp_put hQ he hds (fun v ds w' q => ⟨q.1, hk v ds w' (fun _ => ⟨h.1, q.1⟩) q.2⟩) h.2⟩
  · rename_i hg; rw [if_neg hg] at h
    exact wp_put hQ he hds (fun v ds w' q => hk v ds w' (fun e => (hg e).elim) q) h
theorem effP_reach {o : Oper} {a : Act} {w : World} {K : Act → World → Prop} (hQ : NoP Q) (h : effP P p w0 Q o K a w) : ∃ v ds w', K (Act.put { a with defers := ds } o.dst v) w' := by
  unfold effP at h
  split at h
  · obtain ⟨v, ds, w', hh⟩ := wp_reach hQ h.2; exact ⟨v, ds, w', hh.2⟩
  · exact wp_reach hQ h
theorem stepP_eff {o : Oper} (hs : stillO p o = false) {a : Act} {w : World} {K : Act → World → Prop} : stepP P p w0 Q o K a w = effP P p w0 Q o K a w := by
  simp only [stillO, Bool.or_eq_false_iff] at hs
  unfold stepP
  rw [if_neg (by simp [hs.1]), if_neg (by simp [hs.2])]
theorem freeO_still {o : Oper} (h : freeO P p o = true) : stillO p o = true := by
  unfold stillO; rw [freeOp_calmQ (freeO_spec h).1]; simp

def commB (P : Program) (p : Par) (x y : Oper) : Bool := (stillO p x && stillO p y) || freeO P p x || freeO P p y || (inD p.ld x && growO p y) || (growO p x && inD p.ld y)
theorem growO_spec {o : Oper} (h : growO p o = true) : inD p.gd o = true ∧ stillO p o = false := by
  unfold growO at h; simpa using h
theorem lx_swap {i j : Nat} {oi oj : Oper} (hi : ops[i]? = some oi) (hj : ops[j]? = some oj) (hQ : NoP Q) (hap : oi.apart ops oj = true)
    (hsi : ∀ cs b, oi.op ≠ .select cs b) (hsj : ∀ cs b, oj.op ≠ .select cs b) (hcm : commB P p oi oj = true) {K : Act → World → Prop} {a : Act} {w : World}
    (h : lxOp P p w0 ops Q i (lxOp P p w0 ops Q j K) a w) : lxOp P p w0 ops Q j (lxOp P p w0 ops Q i K) a w := by
  obtain ⟨h1, h2, h3⟩ := Oper.apart_spec hap
  have h2' : ∀ d, oj.dst = some d → oi.dst ≠ some d := fun d hd hd' => h2 d hd' hd
  have ei : ∀ (b : Act) u, execOp (b.put oj.dst u).eval oi = execOp b.eval oi := fun b u => execOp_put oi hsi b oj.dst u h3
  have wi : ∀ (b : Act) u, Region.wanted oi (yielded ops (b.put oj.dst u).tmps) = Region.wanted oi (yielded ops b.tmps) := fun b u => wanted_put oi b oj.dst u h3
  have ej : ∀ (b : Act) u, execOp (b.put oi.dst u).eval oj = execOp b.eval oj := fun b u => execOp_put oj hsj b oi.dst u h1
  have wj : ∀ (b : Act) u, Region.wanted oj (yielded ops (b.put oi.dst u).tmps) = Region.wanted oj (yielded ops b.tmps) := fun b u => wanted_put oj b oi.dst u h1
  by_cases ci : stillO p oi = true ∨ Region.wanted oi (yielded ops a.tmps) = false
  · obtain ⟨v, hv, hk⟩ := Yl_of_lx hi h ci
    by_cases cj : stillO p oj = true ∨ Region.wanted oj (yielded ops a.tmps) = false
    · obtain ⟨u, hu, hk⟩ := Yl_of_lx hj hk (by rw [wj]; exact cj)
      exact lx_of_Yl hj (hu.same (ej _ _).symm (wj _ _).symm) (lx_of_Yl hi (hv.same (ei _ _) (wi _ _)) (by rw [← Act.put_comm a v u h2]; exact hk))
    · have hwj : Region.wanted oj (yielded ops a.tmps) = true := by cases hh : Region.wanted oj (yielded ops a.tmps) <;> simp_all
      have hcj : stillO p oj = false := by cases hh : stillO p oj <;> simp_all
      have hfj : freeO P p oj = false := by
        cases hh : freeO P p oj
        · rfl
        · have := freeO_still hh; rw [hcj] at this; cases this
      have hlj : inD p.ld oj = false := by unfold stillO at hcj; simp only [Bool.or_eq_false_iff] at hcj; exact hcj.1
      unfold lxOp at hk ⊢
      simp only [hj] at hk ⊢
      rw [wj, if_pos hwj, stepP_eff hcj] at hk
      rw [if_pos hwj, stepP_eff hcj]
      have fin : ∀ w', ((inD p.gd oj = true → New w0 w ∧ New w w')) → Yl P p w0 ops oi v a w' := by
        intro w' hnew
        simp only [commB, hcj, hfj, hlj, Bool.and_false, Bool.false_or, Bool.or_false, Bool.or_eq_true, Bool.and_eq_true] at hcm
        rcases hcm with hfi | ⟨hli, hgj⟩
        · exact Yl.free (.inl hfi) hv w'
        · have hn := hnew (growO_spec hgj).1
          exact Yl.load hli hv (hn.1.andNew hn.2)
      refine effP_put hQ (ej a v).symm (Act.put_defers _ _ _).symm (fun u ds w' hnew hh => ?_) hk
      have hv2 := fin w' hnew
      refine lx_of_Yl hi (v := v) ?_ ?_
      · exact hv2.same (by rw [put_defers_eval]; exact ei _ _) (by rw [put_defers_tmps]; exact wi _ _)
      · rw [Act.put_with] at hh
        rw [← Act.put_comm _ v u h2]
        exact hh
  · have hwi : Region.wanted oi (yielded ops a.tmps) = true := by cases hh : Region.wanted oi (yielded ops a.tmps) <;> simp_all
    have hci : stillO p oi = false := by cases hh : stillO p oi <;> simp_all
    have hfi : freeO P p oi = false := by
      cases hh : freeO P p oi
      · rfl
      · have := freeO_still hh; rw [hci] at this; cases this
    have hli : inD p.ld oi = false := by unfold stillO at hci; simp only [Bool.or_eq_false_iff] at hci; exact hci.1
    simp only [commB, hci, hfi, hli, Bool.false_and, Bool.false_or, Bool.or_false, Bool.or_eq_true, Bool.and_eq_true] at hcm
    have hcj : stillO p oj = true := by
      rcases hcm with hfj | ⟨_, hlj⟩
      · exact freeO_still hfj
      · unfold stillO; rw [hlj]; rfl
    unfold lxOp at h
    simp only [hi] at h
    rw [if_pos hwi, stepP_eff hci] at h
    have hnw : growO p oi = true → New w0 w := by
      intro hg; unfold effP at h; rw [if_pos (growO_spec hg).1] at h; exact h.1
    obtain ⟨v, ds, w', hr⟩ := effP_reach hQ h
    have hr' : lxOp P p w0 ops Q j K (Act.put { a with defers := ds } oi.dst v) w' := by unfold lxOp; exact hr
    obtain ⟨u, hu, _⟩ := Yl_of_lx hj hr' (.inl hcj)
    have hua : Yl P p w0 ops oj u a w' := hu.same (by rw [put_defers_eval, ej]) (by rw [put_defers_tmps, wj])
    have hall : ∀ w2, (growO p oi = true → New w0 w2) → Yl P p w0 ops oj u a w2 := by
      intro w2 hn
      rcases hcm with hfj | ⟨hgi, hlj⟩
      · exact Yl.free (.inl hfj) hua w2
      · exact Yl.load hlj hua (hn hgi)
    refine lx_of_Yl hj (hall w hnw) ?_
    unfold lxOp
    simp only [hi]
    rw [wi, if_pos hwi, stepP_eff hci]
    refine effP_put hQ (ei a u) (Act.put_defers _ _ _) (fun v2 ds2 w2 hnew hh => ?_) h
    have hh' : lxOp P p w0 ops Q j K (Act.put { a with defers := ds2 } oi.dst v2) w2 := by unfold lxOp; exact hh
    obtain ⟨u2, hu2, hk2⟩ := Yl_of_lx hj hh' (.inl hcj)
    have hua2 : Yl P p w0 ops oj u2 a w2 := hu2.same (by rw [put_defers_eval, ej]) (by rw [put_defers_tmps, wj])
    have hu3 : Yl P p w0 ops oj u a w2 := hall w2 (fun hg => by have := hnew (growO_spec hg).1; exact this.1.andNew this.2)
    have : u2 = u := by
      rcases hua2 with ⟨q1, q⟩ | ⟨q1, q2⟩
      · rcases hu3 with ⟨_, r⟩ | ⟨r1, _⟩
        · rcases hcm with hfj | ⟨_, hlj⟩
          · obtain ⟨hf, hl⟩ := freeO_spec hfj
            rcases q with ⟨q2, _⟩ | ⟨_, _, q3⟩
            · rw [hl] at q2; cases q2
            · rcases r with ⟨r2, _⟩ | ⟨_, _, r3⟩
              · rw [hl] at r2; cases r2
              · have q := q3.value hf; have r := r3.value hf; rw [q] at r; simpa using r
          · rcases q with ⟨_, q3, _⟩ | ⟨q2, _⟩
            · rcases r with ⟨_, r3, _⟩ | ⟨r2, _⟩
              · exact (q3 w0 (Upd.refl _ _)).uniq (r3 w0 (Upd.refl _ _))
              · rw [hlj] at r2; cases r2
            · rw [hlj] at q2; cases q2
        · rw [q1] at r1; cases r1
      · rcases hu3 with ⟨r1, _⟩ | ⟨_, r2⟩
        · rw [q1] at r1; cases r1
        · rw [q2, r2]
    subst this
    rw [Act.put_with, Act.put_comm _ u2 v2 h2']
    exact hk2

/-! ### all orders -/
def wpAnyL (P : Program) (p : Par) (w0 : World) (ops : Array Oper) (Q : Exit → Act → World → Prop) : Nat → Array Bool → Act → World → Prop
  | 0, listed, a, w => Region.ready .any ops listed = [] ∧ Q .normal a w
  | fuel + 1, listed, a, w =>
    (Region.ready .any ops listed = [] → Q .normal a w) ∧
    ∀ i ∈ Region.ready .any ops listed, lxOp P p w0 ops Q i (wpAnyL P p w0 ops Q fuel (listed.setIfInBounds i true)) a w
theorem wpAny_of_L : ∀ (fuel : Nat) (listed : Array Bool) (a : Act) (w : World), wpAnyL P p w0 ops Q fuel listed a w → wpAny P .any ops Q fuel listed a w
  | 0, _, _, _, h => h
  | fuel + 1, _, _, _, h => ⟨h.1, fun i hi => wpOp_mono (fun a w hh => wpAny_of_L fuel _ a w hh) (lxOp_wpOp (h.2 i hi))⟩

/-- what an operation waits for, by masks; the check that the masks are right, and that whatever is not ordered may be swapped -/
def edgeB (ms : Array Nat) (o : Oper) (i : Nat) : Bool := o.after.any fun e => Region.binds .any e && (e.on == i || (ms.getD e.on 0).testBit i)
def pairB (P : Program) (p : Par) (ops : Array Oper) (ms : Array Nat) (oj : Oper) (mj : Nat) (i : Nat) : Bool :=
  if mj.testBit i then edgeB ms oj i
  else match ops[i]? with | some oi => oi.apart ops oj && commB P p oi oj | none => false
def rowB (P : Program) (p : Par) (ops : Array Oper) (ms : Array Nat) (j : Nat) : Bool :=
  match ops[j]? with
  | some oj => oj.after.all (fun e => !Region.binds .any e || decide (e.on < j)) && (List.range j).all (pairB P p ops ms oj (ms.getD j 0)) && decide (ms.getD j 0 < 2 ^ j)
  | none => false
def seqB (P : Program) (p : Par) (ops : Array Oper) : Bool := Region.noSelect ops && (List.range ops.size).all (rowB P p ops (Region.before ops))

structure SeqOk (P : Program) (p : Par) (ops : Array Oper) (ms : Array Nat) : Prop where
  back : ∀ j oj, ops[j]? = some oj → ∀ e ∈ oj.after, Region.binds .any e = true → e.on < j
  low : ∀ j oj, ops[j]? = some oj → ∀ i, (ms.getD j 0).testBit i = true → i < j
  edge : ∀ j oj, ops[j]? = some oj → ∀ i, (ms.getD j 0).testBit i = true → ∃ e ∈ oj.after, Region.binds .any e = true ∧ (e.on = i ∨ (ms.getD e.on 0).testBit i = true)
  swap : ∀ i j oi oj, i < j → ops[i]? = some oi → ops[j]? = some oj → (ms.getD j 0).testBit i = false → oi.apart ops oj = true ∧ commB P p oi oj = true
theorem seqOk (h : seqB P p ops = true) : SeqOk P p ops (Region.before ops) := by
  simp only [seqB, Bool.and_eq_true, List.all_eq_true, List.mem_range] at h
  generalize Region.before ops = ms at h
  have hr : ∀ j oj, ops[j]? = some oj → oj.after.all (fun e => !Region.binds .any e || decide (e.on < j)) = true ∧ (∀ i, i < j → pairB P p ops ms oj (ms.getD j 0) i = true) ∧ ms.getD j 0 < 2 ^ j := by
    intro j oj hj
    have := h.2 j (Array.getElem?_eq_some_iff.1 hj).1
    simp only [rowB, hj, Bool.and_eq_true, List.all_eq_true, List.mem_range, decide_eq_true_eq] at this
    exact ⟨this.1.1, this.1.2, this.2⟩
  have low : ∀ j oj, ops[j]? = some oj → ∀ i, (ms.getD j 0).testBit i = true → i < j := by
    intro j oj hj i hi
    have h2 := (hr j oj hj).2.2
    rcases Nat.lt_or_ge i j with hlt | hge
    · exact hlt
    · have := Nat.testBit_lt_two_pow (Nat.lt_of_lt_of_le h2 (Nat.pow_le_pow_right (by omega) hge))
      rw [this] at hi; cases hi
  refine ⟨fun j oj hj e he hb => ?_, low, fun j oj hj i hi => ?_, fun i j oi oj hij hi hj hm => ?_⟩
  · have := Array.all_eq_true_iff_forall_mem.1 (hr j oj hj).1 e he
    simpa [hb] using this
  · have := (hr j oj hj).2.1 i (low j oj hj i hi)
    unfold pairB at this
    rw [if_pos hi] at this
    unfold edgeB at this
    obtain ⟨e, he, hb⟩ := Array.any_eq_true'.1 this
    simp only [Bool.and_eq_true, Bool.or_eq_true, beq_iff_eq] at hb
    exact ⟨e, he, hb.1, hb.2⟩
  · have := (hr j oj hj).2.1 i hij
    unfold pairB at this
    rw [if_neg (by rw [hm]; simp)] at this
    simpa [hi] using this

/-- whatever is listed has its own listed -/
def Closed (ops : Array Oper) (listed : Array Bool) : Prop := ∀ j oj, ops[j]? = some oj → listed.getD j false = true → ∀ e ∈ oj.after, Region.binds .any e = true → listed.getD e.on false = true
theorem Closed.set {listed : Array Bool} (hc : Closed ops listed) {i : Nat} (hi : i ∈ Region.ready .any ops listed) : Closed ops (listed.setIfInBounds i true) := by
  obtain ⟨_, oi, hoi, hall⟩ := mem_ready.1 hi
  intro j oj hj hl e he hb
  by_cases hij : i = j
  · subst hij
    have : oj = oi := Option.some.inj (hj.symm.trans hoi)
    subst this
    exact getD_set_true (hall e he hb)
  · rw [getD_set_ne false hij] at hl
    exact getD_set_true (hc j oj hj hl e he hb)
theorem mask_listed {ms : Array Nat} (ok : SeqOk P p ops ms) {listed : Array Bool} (hc : Closed ops listed) : ∀ (j : Nat) (oj : Oper), ops[j]? = some oj →
    (∀ e ∈ oj.after, Region.binds .any e = true → listed.getD e.on false = true) → ∀ i, (ms.getD j 0).testBit i = true → listed.getD i false = true := by
  intro j
  induction j using Nat.strongRecOn with
  | _ j ih =>
    intro oj hj hall i hi
    obtain ⟨e, he, hb, hor⟩ := ok.edge j oj hj i hi
    rcases hor with rfl | hor
    · exact hall e he hb
    · have hlt := ok.back j oj hj e he hb
      cases hoe : ops[e.on]? with
      | none =>
        have h1 := Array.getElem?_eq_none_iff.1 hoe
        have h2 := (Array.getElem?_eq_some_iff.1 hj).1
        omega
      | some oe => exact ih e.on hlt oe hoe (hc e.on oe hoe (hall e he hb)) i hor
theorem wpAnyL_first {ms : Array Nat} (ok : SeqOk P p ops ms) (hs : Region.noSelect ops = true) (hQ : NoP Q) {i : Nat} {oi : Oper} (hi : ops[i]? = some oi) :
    ∀ (fuel : Nat) (listed : Array Bool) (a : Act) (w : World), Closed ops listed → (∀ j, j < i → listed.getD j true = true) →
      i ∈ Region.ready .any ops listed → lxOp P p w0 ops Q i (wpAnyL P p w0 ops Q fuel (listed.setIfInBounds i true)) a w → wpAnyL P p w0 ops Q (fuel + 1) listed a w := by
  intro fuel
  induction fuel with
  | zero =>
    intro listed a w _ _ hr H
    refine ⟨fun h => (by rw [h] at hr; cases hr), fun j hj => ?_⟩
    by_cases hji : j = i
    · subst hji; exact H
    · exfalso
      have hne := ready_mono hj hji
      obtain ⟨v, hreach⟩ : ∃ b : Act × World, wpAnyL P p w0 ops Q 0 (listed.setIfInBounds i true) b.1 b.2 := by
        by_cases hs : stillO p oi = true ∨ Region.wanted oi (yielded ops a.tmps) = false
        · obtain ⟨v, _, h2⟩ := Yl_of_lx hi H hs; exact ⟨(_, _), h2⟩
        · have hw : Region.wanted oi (yielded ops a.tmps) = true := by cases hh : Region.wanted oi (yielded ops a.tmps) <;> simp_all
          have hs' : stillO p oi = false := by cases hh : stillO p oi <;> simp_all
          unfold lxOp at H; simp only [hi] at H
          rw [if_pos hw, stepP_eff hs'] at H
          obtain ⟨v, ds, w', h2⟩ := effP_reach hQ H
          exact ⟨(_, _), h2⟩
      rw [hreach.1] at hne
      cases hne
  | succ fuel ih =>
    intro listed a w hc hlow hr H
    refine ⟨fun h => (by rw [h] at hr; cases hr), fun j hj => ?_⟩
    by_cases hji : j = i
    · subst hji; exact H
    · obtain ⟨hjun, oj, hoj, hall⟩ := mem_ready.1 hj
      have hiun := (mem_ready.1 hr).1
      have hlt : i < j := by
        rcases Nat.lt_trichotomy j i with h | h | h
        · have := hlow j h; rw [hjun] at this; cases this
        · exact (hji h).elim
        · exact h
      have hbit : (ms.getD j 0).testBit i = false := by
        cases hb : (ms.getD j 0).testBit i with
        | false => rfl
        | true =>
          have := mask_listed ok hc j oj hoj hall i hb
          rcases Nat.lt_or_ge i listed.size with h' | h'
          · simp [h'] at this hiun; rw [this] at hiun; cases hiun
          · simp [Array.getElem?_eq_none h'] at this
      obtain ⟨hap, hcm⟩ := ok.swap i j oi oj hlt hi hoj hbit
      have H1 : lxOp P p w0 ops Q i (lxOp P p w0 ops Q j (wpAnyL P p w0 ops Q fuel ((listed.setIfInBounds i true).setIfInBounds j true))) a w :=
        lxOp_mono (fun a' w' hh => hh.2 j (ready_mono hj hji)) H
      have H2 := lx_swap hi hoj hQ hap (fun cs b => Region.noSelect_spec hs i oi cs b hi) (fun cs b => Region.noSelect_spec hs j oj cs b hoj) hcm H1
      refine lxOp_mono (fun a' w' hh => ih (listed.setIfInBounds j true) a' w' (hc.set hj) (fun k hk => ?_) (ready_mono hr (Ne.symm hji)) ?_) H2
      · rw [getD_set_ne true (by omega)]; exact hlow k hk
      · rw [Array.setIfInBounds_comm _ _ hji]; exact hh
theorem wpAnyL_lex {ms : Array Nat} (ok : SeqOk P p ops ms) (hs : Region.noSelect ops = true) (hQ : NoP Q) : ∀ (l : List Oper) (k : Nat) (listed : Array Bool) (a : Act) (w : World), (∀ j, l[j]? = ops[k + j]?) →
    listed.size = ops.size → (∀ j, j < k → listed.getD j false = true) → (∀ j, k ≤ j → listed.getD j false = false) → wpLx P p w0 ops Q l a w → wpAnyL P p w0 ops Q l.length listed a w
  | [], k, listed, a, w, hl, hsz, hlow, hhigh, h => by
    refine ⟨?_, h⟩
    unfold Region.ready
    rw [List.filter_eq_nil_iff]
    intro j hj
    have hj' := List.mem_range.1 hj
    have hk : ops[k]? = none := by simpa using (hl 0).symm
    have hkk := Array.getElem?_eq_none_iff.1 hk
    have := hlow j (by omega)
    have h2 : j < listed.size := by omega
    simp [h2] at this ⊢
    simp [this]
  | o :: l, k, listed, a, w, hl, hsz, hlow, hhigh, h => by
    have h0 : ops[k]? = some o := by simpa using (hl 0).symm
    have hk := (Array.getElem?_eq_some_iff.1 h0).1
    have hst : lxOp P p w0 ops Q k (wpLx P p w0 ops Q l) a w := by unfold lxOp; simp only [h0]; exact h
    have hcl : Closed ops listed := by
      intro j oj hj hlj e he hb
      have hjk : j < k := by
        rcases Nat.lt_or_ge j k with h | h
        · exact h
        · rw [hhigh j h] at hlj; cases hlj
      exact hlow _ (by have := ok.back j oj hj e he hb; omega)
    have hrd : k ∈ Region.ready .any ops listed := by
      refine mem_ready.2 ⟨?_, o, h0, fun e he hb => hlow _ (ok.back k o h0 e he hb)⟩
      have := hhigh k (Nat.le_refl k)
      have h2 : k < listed.size := by omega
      simp [h2] at this ⊢; exact this
    refine wpAnyL_first ok hs hQ h0 l.length listed a w hcl (fun j hj => ?_) hrd (lxOp_mono (fun a' w' hh => ?_) hst)
    · have := hlow j hj
      have h2 : j < listed.size := by omega
      simp [h2] at this ⊢; exact this
    · refine wpAnyL_lex ok hs hQ l (k + 1) _ a' w' (fun j => by have := hl (j + 1); simpa [Nat.add_assoc, Nat.add_comm 1 j] using this) (by simpa using hsz) (fun j hj => ?_) (fun j hj => ?_) hh
      · by_cases hjk : k = j
        · subst hjk; simp [hsz, hk]
        · rw [getD_set_ne false hjk]; exact hlow j (by omega)
      · rw [getD_set_ne false (by omega)]; exact hhigh j (by omega)
/-- A REGION WHOSE ORDER IS OPEN, WALKED IN THE ORDER OF THE TEXT. -/
theorem wp_region_lx (p : Par) {id : Nat} {a : Act} {w : World} {l : List Oper} (hm : P.follows .mixedOrders = true) (hB : seqB P p l.toArray = true) (hQ : NoP Q)
    (h : wpLx P p w.drew l.toArray Q l a w.drew) : (Code.region id l.toArray true).wp P Q a w := by
  have ok := seqOk hB
  have hs : Region.noSelect l.toArray = true := by simp only [seqB, Bool.and_eq_true] at hB; exact hB.1
  refine wp_region_any hm (wpAny_of_L (p := p) (w0 := w.drew) _ _ _ _ ?_)
  have := wpAnyL_lex ok hs hQ l 0 (Array.replicate l.toArray.size false) a { w with drawn := w.drawn + 1 } (by simp) (by simp) (by simp) (fun j _ => by simp only [Array.getD_eq_getD_getElem?, Array.getElem?_replicate]; split <;> rfl) h
  simpa using this
theorem wpLx_nil {a : Act} {w : World} (h : Q .normal a w) : wpLx P p w0 ops Q [] a w := h
theorem wpLx_calm' {a : Act} {w : World} {o : Oper} {rest : List Oper} (hw : Region.wanted o (yielded ops a.tmps) = true) (hl : inD p.ld o = false) (hc : calmOp o = true)
    (h : ∀ K : Act → World → Prop, (∀ a, wpLx P p w0 ops Q rest a w → K a w) → o.wp P a w K (fun _ _ _ => False)) : wpLx P p w0 ops Q (o :: rest) a w := by
  unfold wpLx
  rw [if_pos hw]
  unfold stepP
  rw [if_neg (by simp [hl]), if_pos (by unfold calmQ; rw [hc]; rfl)]
  have h := h (fun a' w' => w' = w ∧ wpLx P p w0 ops Q rest a' w) (fun a hh => ⟨rfl, hh⟩)
  unfold Oper.wp at h
  cases hr : (execOp a.eval o).run P w with
  | halt q w1 => rw [hr] at h; cases q <;> simp [Oper.upon] at h
  | ok n w1 =>
    obtain ⟨v, rfl⟩ := calm_value hc _ _ _ _ hr
    rw [hr] at h
    simp only [Oper.upon] at h
    obtain ⟨rfl, h⟩ := h
    exact ⟨v, .inl hr, h⟩
theorem wpLx_calm {a : Act} {w : World} {o : Oper} {rest : List Oper} (hg : o.guard = none) (hl : inD p.ld o = false) (hc : calmOp o = true)
    (h : ∀ K : Act → World → Prop, (∀ a, wpLx P p w0 ops Q rest a w → K a w) → o.wp P a w K (fun _ _ _ => False)) : wpLx P p w0 ops Q (o :: rest) a w :=
  wpLx_calm' (by simp [Region.wanted, hg]) hl hc h
theorem wpLx_eff' {a : Act} {w : World} {o : Oper} {rest : List Oper} (hw : Region.wanted o (yielded ops a.tmps) = true) (hc : stillO p o = false) (hg : inD p.gd o = false)
    (h : ∀ K : Act → World → Prop, (∀ a w, wpLx P p w0 ops Q rest a w → K a w) → o.wp P a w K Q) : wpLx P p w0 ops Q (o :: rest) a w := by
  unfold wpLx
  rw [if_pos hw, stepP_eff hc]
  unfold effP
  rw [if_neg (by simp [hg])]
  exact h _ (fun _ _ hh => hh)
theorem wpLx_eff {a : Act} {w : World} {o : Oper} {rest : List Oper} (hg : o.guard = none) (hc : stillO p o = false) (hgd : inD p.gd o = false)
    (h : ∀ K : Act → World → Prop, (∀ a w, wpLx P p w0 ops Q rest a w → K a w) → o.wp P a w K Q) : wpLx P p w0 ops Q (o :: rest) a w :=
  wpLx_eff' (by simp [Region.wanted, hg]) hc hgd h
/-- an operation that makes new blocks -/
theorem wpLx_grow {a : Act} {w : World} {o : Oper} {rest : List Oper} (hg : o.guard = none) (hc : stillO p o = false) (hgd : inD p.gd o = true) (hn : New w0 w)
    (h : ∀ K : Act → World → Prop, (∀ a w', New w w' → wpLx P p w0 ops Q rest a w' → K a w') → o.wp P a w K Q) : wpLx P p w0 ops Q (o :: rest) a w := by
  unfold wpLx
  rw [if_pos (by simp [Region.wanted, hg]), stepP_eff hc]
  unfold effP
  rw [if_pos hgd]
  exact ⟨hn, h _ (fun _ _ h1 h2 => ⟨h1, h2⟩)⟩
/-- a type of one cell -/
def plainT (P : Program) (t : TypeId) : Bool := match P.underlying t with | some (.struct _) | some (.array ..) | none => false | _ => true
theorem run_load_plain {t : TypeId} (ht : plainT P t = true) {w : World} {q : Addr} {v : Value} (hc : w.cell? q = some v) : (Instr.loadAt t (.pointer (some q))).run P w = .ok v w := by
  unfold plainT at ht
  cases hu : P.underlying t with
  | none => rw [hu] at ht; cases ht
  | some d =>
    rw [hu] at ht
    have h1 : ∀ w, (isAgg t).run P w = .ok false w := by
      intro w
      unfold isAgg
      simp only [Sem.run_bind, run_underlying hu, Result.andThen_ok]
      cases d <;> first | (cases ht; done) | rfl
    simp only [Instr.loadAt, Instr.sureAddr, loadVar, Sem.run_bind, Sem.run_pure, Result.andThen_ok, h1]
    simp [load, Sem.run, hc]
/-- a load whose cell is known wherever new blocks alone came -/
theorem wpLx_load {a : Act} {w : World} {o : Oper} {rest : List Oper} (hg : o.guard = none) (hl : inD p.ld o = true) (hn : New w0 w) {t : TypeId} {x : Operand} (ho : o.op = .load t x) {q : Addr} {v : Value} (hx : a.eval x = .pointer (some q)) (ht : plainT P t = true)
    (hc : w0.cell? q = some v) (hk : wpLx P p w0 ops Q rest (a.put o.dst v) w) : wpLx P p w0 ops Q (o :: rest) a w := by
  unfold wpLx
  rw [if_pos (by simp [Region.wanted, hg])]
  unfold stepP
  rw [if_pos hl]
  refine ⟨v, fun w' hn' => .inl ?_, hn, hk⟩
  have := run_load_plain ht (hn'.cell hc (fun h => h))
  unfold execOp
  simp only [ho, hx, Sem.run_bind, this, Result.andThen_ok, Sem.run_pure]
/-- a call that answers alike wherever new blocks alone came: its slot stands in 'ld' -/
theorem wpLx_rcall {a : Act} {w : World} {o : Oper} {rest : List Oper} {f : FuncId} {args : Array Value} {v : Value} (hg : o.guard = none) (hl : inD p.ld o = true) (hn : New w0 w)
    (hi : P.inits.idxOf? f = none) (hc : ∀ w', New w0 w' → Calls P f args w' (Ret fun v' w'' => w' = w'' ∧ v' = v)) (hr : ∀ w', (execOp a.eval o).run P w' = .ok (.enter f args) w')
    (hk : wpLx P p w0 ops Q rest (a.put o.dst v) w) : wpLx P p w0 ops Q (o :: rest) a w := by
  unfold wpLx
  rw [if_pos (by simp [Region.wanted, hg])]
  unfold stepP
  rw [if_pos hl]
  refine ⟨v, fun w' hn' => .inr ⟨f, args, hr w', hi, (hc w' hn').mono fun e w'' he => ?_⟩, hn, hk⟩
  cases e with
  | returned u => exact ⟨he.2, he.1.symm⟩
  | panicked c => exact he.elim
  | outgrown => exact he.elim
/-- a call that only reads, by its contract -/
theorem wpLx_call' {a : Act} {w : World} {o : Oper} {rest : List Oper} {f : FuncId} {args : Array Value} {v : Value} (hw : Region.wanted o (yielded ops a.tmps) = true) (hl : inD p.ld o = false) (hq : quietCall p.qd o = true)
    (hc : Calls P f args w (Ret fun v' w' => w = w' ∧ v' = v)) (hr : (execOp a.eval o).run P w = .ok (.enter f args) w)
    (h : wpLx P p w0 ops Q rest (a.put o.dst v) w) : wpLx P p w0 ops Q (o :: rest) a w := by
  unfold wpLx
  rw [if_pos hw]
  unfold stepP
  rw [if_neg (by simp [hl]), if_pos (by unfold calmQ; rw [hq]; simp)]
  refine ⟨v, .inr ⟨f, args, hr, hc.mono fun e w' he => ?_⟩, h⟩
  cases e with
  | returned u => obtain ⟨rfl, rfl⟩ := he; exact ⟨rfl, rfl⟩
  | panicked c => exact he.elim
  | outgrown => exact he.elim
theorem wpLx_call {a : Act} {w : World} {o : Oper} {rest : List Oper} {f : FuncId} {args : Array Value} {v : Value} (hg : o.guard = none) (hl : inD p.ld o = false) (hq : quietCall p.qd o = true)
    (hc : Calls P f args w (Ret fun v' w' => w = w' ∧ v' = v)) (hr : (execOp a.eval o).run P w = .ok (.enter f args) w)
    (h : wpLx P p w0 ops Q rest (a.put o.dst v) w) : wpLx P p w0 ops Q (o :: rest) a w :=
  wpLx_call' (by simp [Region.wanted, hg]) hl hq hc hr h
theorem wpLx_skip {a : Act} {w : World} {o : Oper} {rest : List Oper} (hw : Region.wanted o (yielded ops a.tmps) = false) (h : wpLx P p w0 ops Q rest (a.put o.dst undef) w) : wpLx P p w0 ops Q (o :: rest) a w := by
  unfold wpLx
  rw [if_neg (by simp [hw])]
  exact h
theorem wanted_of {o : Oper} {y : Nat → Option Bool} {j : Nat} {want b : Bool} (hg : o.guard = some (j, want)) (hy : y j = some b) : Region.wanted o y = (b == want) := by
  unfold Region.wanted; rw [hg]; simp only [hy]; cases b <;> cases want <;> rfl
/-- a guarded operation that is passed over, the guard's value being known -/
theorem wpLx_skip2 {a : Act} {w : World} {o : Oper} {rest : List Oper} {j : Nat} {want b : Bool} (hg : o.guard = some (j, want)) (hy : yielded ops a.tmps j = some b) (hb : (b != want) = true) (h : wpLx P p w0 ops Q rest (a.put o.dst undef) w) : wpLx P p w0 ops Q (o :: rest) a w :=
  wpLx_skip (by rw [wanted_of hg hy]; cases b <;> cases want <;> first | rfl | cases hb) h
/-- a guarded operation that is done, the guard's value being known -/
theorem wpLx_calm2 {a : Act} {w : World} {o : Oper} {rest : List Oper} {j : Nat} {want b : Bool} (hg : o.guard = some (j, want)) (hy : yielded ops a.tmps j = some b) (hb : (b == want) = true) (hl : inD p.ld o = false) (hc : calmOp o = true)
    (h : ∀ K : Act → World → Prop, (∀ a, wpLx P p w0 ops Q rest a w → K a w) → o.wp P a w K (fun _ _ _ => False)) : wpLx P p w0 ops Q (o :: rest) a w :=
  wpLx_calm' (by rw [wanted_of hg hy]; exact hb) hl hc h
attribute [irreducible] wpLx
end Go.Proofs.YtgbbogocfmepiaaDoor
