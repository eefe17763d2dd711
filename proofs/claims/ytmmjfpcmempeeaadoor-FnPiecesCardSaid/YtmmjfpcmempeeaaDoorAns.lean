/- Steps and answers in memory. -/
import Derived.Test.YtmmjfpcmempeeaaDoorM6
import Derived.Test.YtmmjfpcmempeeaaDoorM4
namespace Go.Proofs.YtmmjfpcmempeeaaDoor
open Go.RowKit
structure Stp where
  k : Int
  n : Int
  d : UInt8
def Stp.v (s : Stp) : Value := .agg #[.int .i64 s.k, .int .i64 s.n, .int .u8 (s.d.toNat : Int)]
/-- steps that can be read -/
def StepsA (w : World) (a : Option Addr) (c : Nat) (ss : List Stp) : Prop :=
  ss.length ≤ c ∧ c ≤ maxLen ∧ (a = none → c = 0) ∧ ∀ p, a = some p → (ss ≠ [] → p.spot = none) ∧ ∀ i, (h : i < ss.length) →
    w.cell? ⟨p.block, p.off + i * 3, none⟩ = some (.int .i64 ss[i].k) ∧ w.cell? ⟨p.block, p.off + i * 3 + 1, none⟩ = some (.int .i64 ss[i].n) ∧ w.cell? ⟨p.block, p.off + i * 3 + 2, none⟩ = some (.int .u8 (ss[i].d.toNat : Int))
theorem StepsA.upd {M : Nat → Prop} {w w1 : World} {a : Option Addr} {c : Nat} {ss : List Stp} (h : StepsA w a c ss) (u : Upd M w w1) (hm : ∀ p, a = some p → ss ≠ [] → ¬ M p.block) : StepsA w1 a c ss := by
  refine ⟨h.1, h.2.1, h.2.2.1, fun p hp => ⟨(h.2.2.2 p hp).1, fun i hi => ?_⟩⟩
  have hn : ss ≠ [] := by rintro rfl; simp at hi
  obtain ⟨h1, h2, h3⟩ := (h.2.2.2 p hp).2 i hi
  exact ⟨u.cell h1 (hm p hp hn), u.cell h2 (hm p hp hn), u.cell h3 (hm p hp hn)⟩
theorem StepsA.new {w w1 : World} {a : Option Addr} {c : Nat} {ss : List Stp} (h : StepsA w a c ss) (u : New w w1) : StepsA w1 a c ss := h.upd u (fun _ _ _ h => h)
/-- the cells of one -/
theorem StepsA.at {w : World} {a : Option Addr} {c : Nat} {ss : List Stp} (h : StepsA w a c ss) {k : Nat} (hk : k < ss.length) : ∃ b o, a = some ⟨b, o, none⟩ ∧ b < w.heap.size ∧
    w.cell? ⟨b, o + k * 3, none⟩ = some (.int .i64 ss[k].k) ∧ w.cell? ⟨b, o + k * 3 + 1, none⟩ = some (.int .i64 ss[k].n) ∧ w.cell? ⟨b, o + k * 3 + 2, none⟩ = some (.int .u8 (ss[k].d.toNat : Int)) := by
  cases a with
  | none => have := h.1; have := h.2.2.1 rfl; omega
  | some p =>
    obtain ⟨hs, hc⟩ := h.2.2.2 p rfl
    obtain ⟨b, o, s⟩ := p
    have hs : s = none := hs (by rintro rfl; simp at hk)
    subst hs
    have := hc k hk
    exact ⟨b, o, rfl, World.block_lt_of_cell? w _ this.1, this⟩
/-- a slice of bytes, in a block of bytes of which P is said (some of its cells may be frozen) -/
def ElemF (w : World) (P : Nat → Prop) (v : Value) (bs : List UInt8) : Prop :=
  ∃ a c, v = .slice a bs.length c ∧ BytesA w a c bs ∧ ∀ p, a = some p → bs ≠ [] → P p.block ∧ ∃ cur fr, w.heap[p.block]? = some (.cells cur 5 fr)
theorem ElemF.upd {M P : Nat → Prop} {w w1 : World} {v : Value} {bs : List UInt8} (h : ElemF w P v bs) (u : Upd M w w1) (hm : ∀ k cur fr, M k → P k → w.heap[k]? = some (.cells cur 5 fr) → False) : ElemF w1 P v bs := by
  obtain ⟨a, c, rfl, hb, hp⟩ := h
  refine ⟨a, c, rfl, hb.upd u (fun p hq hn hh => ?_), fun p hq hn => ?_⟩
  · obtain ⟨h1, cur, fr, h2⟩ := hp p hq hn
    exact hm _ cur fr hh h1 h2
  · obtain ⟨h1, cur, fr, h2⟩ := hp p hq hn
    exact ⟨h1, cur, fr, u.heap h2 (fun hh => hm _ cur fr hh h1 h2)⟩
theorem ElemF.mono {P P' : Nat → Prop} {w : World} {v : Value} {bs : List UInt8} (h : ElemF w P v bs) (hp : ∀ k, P k → P' k) : ElemF w P' v bs := by
  obtain ⟨a, c, rfl, hb, hq⟩ := h
  exact ⟨a, c, rfl, hb, fun p h1 h2 => ⟨hp _ (hq p h1 h2).1, (hq p h1 h2).2⟩⟩
theorem ElemB.toF {w : World} {P : Nat → Prop} {v : Value} {bs : List UInt8} (h : ElemB w P v bs) : ElemF w P v bs := by
  obtain ⟨a, c, rfl, hb, hq⟩ := h
  exact ⟨a, c, rfl, hb, fun p h1 h2 => by obtain ⟨q1, cur, q2⟩ := hq p h1 h2; exact ⟨q1, cur, _, q2⟩⟩
theorem ElemF.nil (w : World) (P : Nat → Prop) : ElemF w P (.slice none 0 0) [] := ⟨none, 0, rfl, ⟨Nat.le_refl _, Nat.zero_le _, fun _ => rfl, fun p hp => by cases hp⟩, fun p hp => by cases hp⟩
/-- an answer's cells -/
def AnsE (w : World) (P : Nat → Prop) (cs : List Value) (a : Ans) : Prop := ∃ bv, cs = [bv, .int .i64 a.n, .int .i32 a.rune, .bool a.flag, .int .i64 (a.code : Int)] ∧ ElemF w P bv a.bytes
theorem AnsE.upd {M P : Nat → Prop} {w w1 : World} {cs : List Value} {a : Ans} (h : AnsE w P cs a) (u : Upd M w w1) (hm : ∀ k cur fr, M k → P k → w.heap[k]? = some (.cells cur 5 fr) → False) : AnsE w1 P cs a := by
  obtain ⟨bv, rfl, h⟩ := h
  exact ⟨bv, rfl, h.upd u hm⟩
theorem AnsE.len {w : World} {P : Nat → Prop} {cs : List Value} {a : Ans} (h : AnsE w P cs a) : cs.length = 5 := by obtain ⟨bv, rfl, _⟩ := h; rfl
/-- answers in a row of one's own -/
def OwnA (base : Nat) (P : Nat → Prop) (w : World) (v : Value) (zs : List Ans) : Prop :=
  ∃ vs : List (List Value), vs.length = zs.length ∧ w.ownsRow base 59 5 v zs.length vs.flatten ∧ ∀ i, (h : i < zs.length) → ∃ cs, vs[i]? = some cs ∧ AnsE w P cs zs[i]
theorem OwnA.nil (base : Nat) (P : Nat → Prop) (w : World) : OwnA base P w (.slice none 0 0) [] := ⟨[], rfl, World.ownsRow_nil _ _ _ _, fun i hi => by simp at hi⟩
theorem ownsRow_updT {M : Nat → Prop} {base e size n : Nat} {w w1 : World} {v : Value} {xs : List Value} (h : w.ownsRow base e size v n xs) (u : Upd M w w1) (h1 : ∀ k cur, M k → base ≤ k → w.heap[k]? = some (.cells cur e (0, 0)) → False) : w1.ownsRow base e size v n xs := by
  refine ⟨h.1, ?_⟩
  rcases h.2 with h | ⟨g, cap, cur, hv, hb, hg, r⟩
  · exact .inl h
  · exact .inr ⟨g, cap, cur, hv, hb, u.heap hg (fun hh => h1 g cur hh hb hg), r⟩
theorem OwnA.upd {M P : Nat → Prop} {base : Nat} {w w1 : World} {v : Value} {zs : List Ans} (h : OwnA base P w v zs) (u : Upd M w w1) (h1 : ∀ k cur, M k → base ≤ k → w.heap[k]? = some (.cells cur 59 (0, 0)) → False)
    (h2 : ∀ k cur fr, M k → P k → w.heap[k]? = some (.cells cur 5 fr) → False) : OwnA base P w1 v zs := by
  obtain ⟨vs, hl, ho, hp⟩ := h
  refine ⟨vs, hl, ownsRow_updT ho u h1, fun i hi => ?_⟩
  obtain ⟨cs, q1, q2⟩ := hp i hi
  exact ⟨cs, q1, q2.upd u h2⟩
theorem OwnA.new {P : Nat → Prop} {base : Nat} {w w1 : World} {v : Value} {zs : List Ans} (h : OwnA base P w v zs) (u : New w w1) : OwnA base P w1 v zs := h.upd u (fun _ _ hh _ _ => hh) (fun _ _ _ hh _ _ => hh)
/-- one more -/
theorem OwnA.grow {P : Nat → Prop} {base : Nat} {w w2 w3 : World} {pv pv' : Value} {zs : List Ans} {a : Ans} {cs : List Value} {vs : List (List Value)} (hl : vs.length = zs.length) (ho1 : w.ownsRow base 59 5 pv zs.length vs.flatten)
    (hp : ∀ i, (h : i < zs.length) → ∃ cs, vs[i]? = some cs ∧ AnsE w P cs zs[i]) (hv : AnsE w P cs a) (h12 : New w w2)
    (ho : w3.ownsRow base 59 5 pv' (zs.length + 1) (vs.flatten ++ cs)) (hg : w2.grownBy w3 pv.ownBlock) : OwnA base P w3 pv' (zs ++ [a]) ∧ Upd (fun k => base ≤ k ∧ ∃ cur, w2.heap[k]? = some (.cells cur 59 (0, 0))) w2 w3 := by
  have hb : ∀ k, pv.ownBlock = some k → base ≤ k ∧ ∃ cur, w2.heap[k]? = some (.cells cur 59 (0, 0)) := fun k hk => by
    obtain ⟨h1, cur, h2⟩ := ownsRow_block ho1 hk
    exact ⟨h1, cur, h12.heap h2 (fun h => h)⟩
  have upd : Upd (fun k => base ≤ k ∧ ∃ cur, w2.heap[k]? = some (.cells cur 59 (0, 0))) w2 w3 := (Upd.refl _ _).grown hg (fun k hk _ => hb k hk)
  have hel : ∀ u x, AnsE w P u x → AnsE w3 P u x := fun u x hx => (hx.upd h12 (fun _ _ _ hh _ _ => hh)).upd upd (fun k cur fr hm _ hc => by
    obtain ⟨_, cur', h2⟩ := hm
    rw [hc] at h2
    simp at h2)
  refine ⟨⟨vs ++ [cs], by simp [hl], by simpa using ho, fun i hi => ?_⟩, upd⟩
  by_cases hlast : i < zs.length
  · obtain ⟨u, hu1, hpc⟩ := hp i hlast
    refine ⟨u, by rw [List.getElem?_append_left (by omega)]; exact hu1, ?_⟩
    rw [List.getElem_append_left hlast]
    exact hel _ _ hpc
  · have hi' : i = zs.length := by simp at hi; omega
    subst hi'
    refine ⟨cs, by rw [List.getElem?_append_right (by omega)]; simp [hl], ?_⟩
    have e : (zs ++ [a])[zs.length] = a := by simp
    rw [e]
    exact hel _ _ hv
theorem flatten_at {α : Type} (m : Nat) : ∀ (vs : List (List α)), (∀ x ∈ vs, x.length = m) → ∀ i j, (hi : i < vs.length) → j < m → vs.flatten[i * m + j]? = (vs[i])[j]?
  | [], _, i, _, hi, _ => by simp at hi
  | x :: vs, h, 0, j, _, hj => by
    have hx := h x (by simp)
    rw [List.flatten_cons, Nat.zero_mul, Nat.zero_add, List.getElem?_append_left (by omega)]
    rfl
  | x :: vs, h, i + 1, j, hi, hj => by
    have hx := h x (by simp)
    rw [List.flatten_cons, List.getElem?_append_right (by rw [hx, Nat.succ_mul]; omega), hx, show (i + 1) * m + j - m = i * m + j by rw [Nat.succ_mul]; omega]
    rw [flatten_at m vs (fun y hy => h y (by simp [hy])) i j (by simpa using hi) hj]
    rfl
/-- answers that can be read, in blocks of which P is said -/
def AnssA (w : World) (P : Nat → Prop) (a : Option Addr) (c : Nat) (zs : List Ans) : Prop :=
  zs.length ≤ c ∧ c ≤ maxLen ∧ (a = none → c = 0) ∧ ∀ p, a = some p → p.spot = none ∧ P p.block ∧ ∀ i, (h : i < zs.length) → ∃ ab cb,
    w.cell? ⟨p.block, p.off + i * 5, none⟩ = some (.slice ab zs[i].bytes.length cb) ∧ w.cell? ⟨p.block, p.off + i * 5 + 1, none⟩ = some (.int .i64 zs[i].n) ∧ w.cell? ⟨p.block, p.off + i * 5 + 2, none⟩ = some (.int .i32 zs[i].rune) ∧
    w.cell? ⟨p.block, p.off + i * 5 + 3, none⟩ = some (.bool zs[i].flag) ∧ w.cell? ⟨p.block, p.off + i * 5 + 4, none⟩ = some (.int .i64 (zs[i].code : Int)) ∧ BytesA w ab cb zs[i].bytes ∧ ∀ q, ab = some q → zs[i].bytes ≠ [] → P q.block
theorem AnssA.upd {M P : Nat → Prop} {w w1 : World} {a : Option Addr} {c : Nat} {zs : List Ans} (h : AnssA w P a c zs) (u : Upd M w w1) (hm : ∀ k, M k → P k → False) : AnssA w1 P a c zs := by
  refine ⟨h.1, h.2.1, h.2.2.1, fun p hp => ⟨(h.2.2.2 p hp).1, (h.2.2.2 p hp).2.1, fun i hi => ?_⟩⟩
  obtain ⟨ab, cb, h0, h1, h2, h3, h4, h5, h6⟩ := (h.2.2.2 p hp).2.2 i hi
  have hn : ¬ M p.block := fun hh => hm _ hh (h.2.2.2 p hp).2.1
  exact ⟨ab, cb, u.cell h0 hn, u.cell h1 hn, u.cell h2 hn, u.cell h3 hn, u.cell h4 hn, h5.upd u (fun q hq hne hh => hm _ hh (h6 q hq hne)), h6⟩
theorem AnssA.new {P : Nat → Prop} {w w1 : World} {a : Option Addr} {c : Nat} {zs : List Ans} (h : AnssA w P a c zs) (u : New w w1) : AnssA w1 P a c zs := h.upd u (fun _ hh _ => hh)
theorem AnssA.mono {P P' : Nat → Prop} {w : World} {a : Option Addr} {c : Nat} {zs : List Ans} (h : AnssA w P a c zs) (hp : ∀ k, P k → P' k) : AnssA w P' a c zs := by
  refine ⟨h.1, h.2.1, h.2.2.1, fun p hp' => ⟨(h.2.2.2 p hp').1, hp _ (h.2.2.2 p hp').2.1, fun i hi => ?_⟩⟩
  obtain ⟨ab, cb, h0, h1, h2, h3, h4, h5, h6⟩ := (h.2.2.2 p hp').2.2 i hi
  exact ⟨ab, cb, h0, h1, h2, h3, h4, h5, fun q hq hn => hp _ (h6 q hq hn)⟩
theorem OwnA.read {P : Nat → Prop} {base : Nat} {w : World} {v : Value} {zs : List Ans} (h : OwnA base P w v zs) (hP : ∀ k, base ≤ k → P k) : ∃ a c, v = .slice a zs.length c ∧ AnssA w P a c zs := by
  obtain ⟨vs, hl, ho, hp⟩ := h
  rcases ho.2 with ⟨rfl, hn⟩ | ⟨g, cap, cur, rfl, hb, hg, hn, hm, hs, ht⟩
  · exact ⟨none, 0, by rw [hn], by omega, Nat.zero_le _, fun _ => rfl, fun p hp => by cases hp⟩
  · refine ⟨_, cap, rfl, hn, hm, by simp, fun p hp' => ?_⟩
    simp only [Option.some.injEq] at hp'; subst hp'
    refine ⟨rfl, hP _ hb, fun i hi => ?_⟩
    have hlen : ∀ x ∈ vs, x.length = 5 := fun x hx => by
      obtain ⟨i, hi, rfl⟩ := List.mem_iff_getElem.1 hx
      obtain ⟨cs, q1, q2⟩ := hp i (by omega)
      rw [List.getElem?_eq_getElem hi] at q1
      simp only [Option.some.injEq] at q1
      rw [q1]; exact q2.len
    obtain ⟨cs, q1, q2⟩ := hp i hi
    have hcell : ∀ j, j < 5 → w.cell? ⟨g, 0 + i * 5 + j, none⟩ = cs[j]? := fun j hj => by
      rw [World.cell_of_heap hg]
      have hf := flatten_at 5 vs hlen i j (by omega) hj
      rw [← ht, List.getElem?_take_of_lt (by omega)] at hf
      rw [List.getElem?_eq_getElem (by omega)] at q1
      simp only [Option.some.injEq] at q1
      rw [q1] at hf
      rw [← hf, Nat.zero_add]
      simp
    obtain ⟨bv, rfl, ab, cb, rfl, hby, hbk⟩ := q2
    exact ⟨ab, cb, hcell 0 (by omega), hcell 1 (by omega), hcell 2 (by omega), hcell 3 (by omega), hcell 4 (by omega), hby, fun q hq hn => (hbk q hq hn).1⟩
theorem AnssA.at {P : Nat → Prop} {w : World} {a : Option Addr} {c : Nat} {zs : List Ans} (h : AnssA w P a c zs) {k : Nat} (hk : k < zs.length) : ∃ b o ab cb, a = some ⟨b, o, none⟩ ∧
    w.cell? ⟨b, o + k * 5, none⟩ = some (.slice ab zs[k].bytes.length cb) ∧ w.cell? ⟨b, o + k * 5 + 1, none⟩ = some (.int .i64 zs[k].n) ∧ w.cell? ⟨b, o + k * 5 + 2, none⟩ = some (.int .i32 zs[k].rune) ∧
    w.cell? ⟨b, o + k * 5 + 3, none⟩ = some (.bool zs[k].flag) ∧ w.cell? ⟨b, o + k * 5 + 4, none⟩ = some (.int .i64 (zs[k].code : Int)) ∧ BytesA w ab cb zs[k].bytes ∧ ∀ q, ab = some q → zs[k].bytes ≠ [] → P q.block := by
  cases a with
  | none => have := h.1; have := h.2.2.1 rfl; omega
  | some p =>
    obtain ⟨hs, _, hc⟩ := h.2.2.2 p rfl
    obtain ⟨b, o, s⟩ := p
    subst hs
    obtain ⟨ab, cb, h⟩ := hc k hk
    exact ⟨b, o, ab, cb, rfl, h⟩
theorem eAns : ElemI Tryd.prog 49 59 (.agg #[.slice none 0 0, .int .i64 0, .int .i32 0, .bool false, .int .i64 0]) 5 48 := ElemI.mk' Tryd.underlying49 (by kernel_rfl) rfl (by omega)
end Go.Proofs.YtmmjfpcmempeeaaDoor
