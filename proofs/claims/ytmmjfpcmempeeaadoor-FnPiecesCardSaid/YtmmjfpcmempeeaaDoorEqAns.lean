/- slices.EqualFunc over answers, by laws.same. -/
import Derived.Test.YtmmjfpcmempeeaaDoorAsked
namespace Go.Proofs.YtmmjfpcmempeeaaDoor
open Go.RowKit
/-- an operation that answers alike wherever new blocks alone came: its slot stands in 'ld' -/
theorem wpLx_alike {P : Program} {p : Par} {w0 : World} {ops : Array Oper} {Q : Exit → Act → World → Prop} {a : Act} {w : World} {o : Oper} {rest : List Oper} {v : Value} (hg : o.guard = none) (hl : inD p.ld o = true) (hn : New w0 w)
    (hr : ∀ w', New w0 w' → (execOp a.eval o).run P w' = .ok (.value v) w') (hk : wpLx P p w0 ops Q rest (a.put o.dst v) w) : wpLx P p w0 ops Q (o :: rest) a w := by
  unfold wpLx
  rw [if_pos (by simp [Region.wanted, hg])]
  unfold stepP
  rw [if_pos hl]
  exact ⟨v, fun w' hn' => .inl (hr w' hn'), hn, hk⟩
set_option maxRecDepth 100000 in
set_option maxHeartbeats 2000000 in
theorem equalAns {w : World} {P1 P2 : Nat → Prop} {a1 a2 : Option Addr} {c1 c2 : Nat} {zs : List Ans} (h1 : AnssA w P1 a1 c1 zs) (h2 : AnssA w P2 a2 c2 zs) :
    Calls Tryd.prog 24 #[.slice a1 zs.length c1, .slice a2 zs.length c2, .func (.func 25) #[] #[]] w (Ret fun v w' => New w w' ∧ v = .bool true) := by
  have l1 := h1.1
  have l2 := h1.2.1
  have l3 := h2.1
  have l4 := h2.2.1
  unfold maxLen at l2 l4
  have H1 := Lib.hid h1
  have H2 := Lib.hid h2
  clear h1 h2
  go_enter Tryd.func24, Tryd.ntmps24
  go_wp2
  go_loopw [17] (fun i wr => New w wr ∧ ∃ k : Nat, k ≤ zs.length ∧ i = .int .i64 (k : Int)) (fun i _ => zs.length - (intOf i).toNat)
  case atStart => exact ⟨Upd.refl _ _, 0, Nat.zero_le _, rfl⟩
  case round =>
    obtain ⟨hn, k, hk, rfl⟩ := hrel
    have HN := Lib.hid hn
    clear hn
    by_cases hlt : k < zs.length
    · obtain ⟨b, o, ab, cb, rfl, x0, x1, x2, x3, x4, hb, _⟩ := (H1.out.new HN.out).at hlt
      obtain ⟨b', o', ab', cb', rfl, y0, y1, y2, y3, y4, hb', _⟩ := (H2.out.new HN.out).at hlt
      obtain ⟨z, hz⟩ : ∃ z, zs[k] = z := ⟨_, rfl⟩
      rw [hz] at x0 x1 x2 x3 x4 y0 y1 y2 y3 y4 hb hb'
      have K1 := Lib.hid (fun wx (hx : New wr wx) => sameAns (hb.new hx) (hb'.new hx))
      obtain ⟨m, hm⟩ : ∃ m, z.bytes.length = m := ⟨_, rfl⟩
      rw [hm] at x0 y0 K1
      have hbl : b < wr.heap.size := World.block_lt_of_cell? wr _ x0
      have hbl' : b' < wr.heap.size := World.block_lt_of_cell? wr _ y0
      have aa : ∀ (O : Obj) (j : Nat) (v : Value), wr.cell? ⟨b', j, none⟩ = some v → (wr.alloc O).cell? ⟨b', j, none⟩ = some v := fun O j v h => ((Upd.refl (fun _ => False) wr).alloc O).cell h (fun h => h)
      have y0' := fun O => aa O _ _ y0
      have y1' := fun O => aa O _ _ y1
      have y2' := fun O => aa O _ _ y2
      have y3' := fun O => aa O _ _ y3
      have y4' := fun O => aa O _ _ y4
      clear hz hm hb hb' aa
      go_wp2_with (go_at_call 25; refine callRet (K1.out _ (((Upd.refl _ _).alloc _).alloc _)) ?_; rintro v w1 ⟨hn1, rfl⟩; have HN1 : Hid (New w w1) := ((HN.out.alloc _).alloc _).andNew hn1; clear hn1)
      exact ⟨⟨HN1.out, k + 1, by omega, by go_num⟩, by simp [intOf]; omega⟩
    · obtain rfl : k = zs.length := by omega
      go_wp2
      go_ret
      exact ⟨HN.out, rfl⟩
end Go.Proofs.YtmmjfpcmempeeaaDoor
