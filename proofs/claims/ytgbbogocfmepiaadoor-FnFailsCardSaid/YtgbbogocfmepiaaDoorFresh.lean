/- Append of bytes to a row of one's own: where the row lies behind it. -/
import Derived.Test.YtgbbogocfmepiaaDoorListsE
namespace Go.Proofs.YtgbbogocfmepiaaDoor
open Go.RowKit
/-- the row stays where it was, or lies in a new block -/
theorem append_fresh {P : Program} {w : World} {t ty e : TypeId} {z : Value} {bytes : Nat} (E : ElemI P t e z 1 bytes) {base n m c : Nat} {v v' : Value} {xs news : List Value} {w' : World} {a : Addr} (hown : w.ownsRow base e 1 v n xs) (hl : news.length = m)
    (hnews : ∀ j u, news[j]? = some u → w.cell? (a.add j) = some u) (h1 : ∀ u ∈ news, u.oneCell' = true) (h63 : n + m ≤ maxLen) (hbytes : (n + m) * bytes ≤ 140737488355328)
    (hr : (Builtin.append_ #[t, t] ty #[v, .slice (some a) m c]).run P w = .ok v' w') : ∀ k, v'.ownBlock = some k → v.ownBlock = some k ∨ w.heap.size ≤ k := by
  obtain ⟨i, hi, hz0, hsz, hby⟩ := E.hi
  have hl1 : news.length = m * i.size := by rw [hsz, Nat.mul_one]; exact hl
  intro k hk
  rcases hown.2 with ⟨rfl, rfl⟩ | ⟨g, cap, cur, rfl, _, hg, hnc, hcm, hcs, _⟩
  · obtain ⟨v2, w2, r1, r2, _⟩ := run_append_own (P := P) w w.heap.size t ty e i z 1 bytes E.ht hi hz0 hsz hby E.hz E.pos (.slice none 0 0) 0 xs ⟨hown.1, .inl ⟨rfl, rfl⟩⟩ a m c news (by rw [Nat.mul_one]; exact hl) hnews h1 h63 hbytes (Nat.le_refl _)
    rw [hr] at r1
    simp only [Result.ok.injEq] at r1
    obtain ⟨rfl, rfl⟩ := r1
    exact .inr (r2.lt k hk).1
  · by_cases hroom : n + m ≤ cap
    · have r1 := run_append_room (P := P) w t ty e i E.ht hi g n cap cur hg a m c news hl1 hnews h1 hroom (by rw [hl, hcs, hsz]; omega)
      rw [hr] at r1
      simp only [Result.ok.injEq] at r1
      rw [r1.1] at hk
      exact .inl hk
    · have r1 := run_append_grow (P := P) w t ty e i z E.ht hi hz0 ⟨g, 0, none⟩ n cap xs (by rw [hsz]; exact hown.1) (hown.cells (g := g) rfl) a m c news hl1 hnews (by omega) (by unfold maxLen at h63; omega) (growslice_fits (by omega) (by rw [hby]; exact hbytes))
      rw [hr] at r1
      simp only [Result.ok.injEq] at r1
      rw [r1.1] at hk
      simp only [Value.ownBlock, Option.some.injEq] at hk
      exact .inr (by omega)
theorem wp_appendB {P : Program} {w : World} {o : Oper} {a : Act} {K : Act → World → Prop} {Q : Exit → Act → World → Prop} {t e : TypeId} {z : Value} {bytes : Nat} (E : ElemI P t e z 1 bytes) (s x : Operand)
    (ho : o.op = .call { callee := .builtin .append, args := #[s, x], argTypes := #[t, t] })
    (base : Nat) (v : Value) (n : Nat) (xs : List Value) (hs : a.eval s = v) (hown : w.ownsRow base e 1 v n xs)
    (ad : Addr) (m c : Nat) (news : List Value) (hx : a.eval x = .slice (some ad) m c) (hl : news.length = m)
    (hnews : ∀ j u, news[j]? = some u → w.cell? (ad.add j) = some u) (h1 : ∀ u ∈ news, u.oneCell' = true)
    (h63 : n + m ≤ maxLen) (hbytes : (n + m) * bytes ≤ 140737488355328) (hbase : base ≤ w.heap.size)
    (h : ∀ v' w', w'.ownsRow base e 1 v' (n + m) (xs ++ news) → w.grownBy w' v.ownBlock → (∀ k, v'.ownBlock = some k → v.ownBlock = some k ∨ w.heap.size ≤ k) → K (a.put o.dst v') w') : o.wp P a w K Q := by
  obtain ⟨i, hi, hz0, hsz, hby⟩ := E.hi
  obtain ⟨v', w', hr, h2, h3, _⟩ := run_append_own (P := P) w base t o.type e i z 1 bytes E.ht hi hz0 hsz hby E.hz E.pos v n xs hown ad m c news (by rw [Nat.mul_one]; exact hl) hnews h1 h63 hbytes hbase
  have h5 := append_fresh E hown hl hnews h1 h63 hbytes hr
  unfold Oper.wp execOp
  simp only [ho, resolve, invoke, builtin, Sem.run_bind, Sem.run_pure, Result.andThen_ok, List.map_toArray, List.map_cons, List.map_nil, hs, hx, hr]
  exact h v' w' h2 h3 h5
/-- the row stays where it was, or lies in a new block -/
def Stay (w : World) (ov ov' : Value) : Prop := ∀ k, ov'.ownBlock = some k → ov.ownBlock = some k ∨ w.heap.size ≤ k
theorem Stay.refl (w : World) (ov : Value) : Stay w ov ov := fun _ h => .inl h
theorem Stay.trans {M : Nat → Prop} {w w1 : World} {o o1 o2 : Value} (h : Stay w o o1) (u : Upd M w w1) (h' : Stay w1 o1 o2) : Stay w o o2 := fun k hk => by
  rcases h' k hk with h1 | h1
  · exact h k h1
  · exact .inr (Nat.le_trans u.size h1)
end Go.Proofs.YtgbbogocfmepiaaDoor
