/- (*bufio.Scanner).advance, setErr, Bytes, Err. -/
import Derived.Test.YtgbbogocfmepiaaDoorScn
namespace Go.Proofs.YtgbbogocfmepiaaDoor
open Go.RowKit
variable {S : Err → Addr} {w : World} {base : Nat} {L : SLoc} {k most lim : Nat} {st : SS}
set_option maxRecDepth 100000 in
set_option maxHeartbeats 1000000 in
theorem scAdvance (h : Sc S w base L k most lim st) (n : Nat) (hn : n ≤ st.en - st.st) :
    Calls Tryd.prog 59 #[.pointer (some ⟨L.b, 0, none⟩), .int .i64 (n : Int)] w (Ret fun v w' => v = .bool true ∧ ScWent S base L k most lim w st w' { st with st := st.st + n } ∧ Upd (fun j => j = L.b) w w') := by
  have hse := h.se
  have hen := h.en
  have hlim := h.lim
  have hcl := h.cle
  obtain ⟨c0, c1, c2, c3, c4, c5, c6, c7, c8, c9, c10, hf⟩ := h.cells
  have H := Lib.hid h
  have q1 : decide ((n : Int) < 0) = false := decide_eq_false (by omega)
  have q2 : decide ((st.en : Int) - (st.st : Int) < (n : Int)) = false := decide_eq_false (by omega)
  have hfin : ∀ w1, New w w1 → ∀ w2, w2 = w1.setCell ⟨L.b, 5, none⟩ (.int .i64 ((st.st : Int) + (n : Int))) → ScWent S base L k most lim w st w2 { st with st := st.st + n } ∧ Upd (fun j => j = L.b) w w2 := by
    intro w1 hn1 w2 hw2
    rw [show (st.st : Int) + (n : Int) = ((st.st + n : Nat) : Int) by omega] at hw2
    subst hw2
    exact ⟨((ScWent.refl H.out).new hn1).cell 5 _ ((H.out.new hn1).setSt (st.st + n) (by omega)) rfl rfl, (hn1.mono (M := fun j => j = L.b) (fun _ hh _ => hh.elim)).setCell (fun _ => rfl) _⟩
  have HFIN := Lib.hid hfin
  clear h hfin
  go_enter Tryd.func59, Tryd.ntmps59
  (go_wp2_with fail; (repeat' (refine wp_region_lx {} (by kernel_rfl) (by kernel_rfl) ⟨fun _ _ _ h => h.2, fun _ _ h => h⟩ ?_; (repeat' (first | (refine wpLx_calm rfl rfl rfl (fun K hK => ?_); go_step <;> (refine hK _ ?_; clear hK K)) | (refine wpLx_skip2 rfl rfl rfl ?_; go_simp) | (refine wpLx_calm2 rfl rfl rfl rfl rfl (fun K hK => ?_); go_step <;> (refine hK _ ?_; clear hK K)))); all_goals (refine wpLx_nil ?_; try go_wp2_with fail))))
  go_ret
  exact ⟨rfl, HFIN.out _ ((Upd.refl _ _).drew) _ rfl⟩
set_option maxRecDepth 100000 in
set_option maxHeartbeats 1000000 in
theorem scSetErr (h : Sc S w base L k most lim st) (he : st.err = none) (x : Err) (hx : (x = endErr st.f ∧ st.ps = []) ∨ x = .long) :
    Calls Tryd.prog 58 #[.pointer (some ⟨L.b, 0, none⟩), eV S (some x)] w (Ret fun v w' => v = .tuple #[] ∧ ScWent S base L k most lim w st w' { st with err := some x }) := by
  obtain ⟨c0, c1, c2, c3, c4, c5, c6, c7, c8, c9, c10, hf⟩ := h.cells
  have H := Lib.hid h
  rw [he] at c7
  have c7 : w.cell? ⟨L.b, 7, none⟩ = some .nilIface := c7
  have hfin : ∀ w1, New w w1 → ∀ w2, w2 = w1.setCell ⟨L.b, 7, none⟩ (eV S (some x)) → ScWent S base L k most lim w st w2 { st with err := some x } := by
    intro w1 hn1 w2 hw2
    subst hw2
    exact ((ScWent.refl H.out).new hn1).cell 7 _ ((H.out.new hn1).setErr (some x) (by rcases hx with ⟨h1, h2⟩ | h1; exact .inr (.inl ⟨by rw [h1], h2⟩); exact .inr (.inr (by rw [h1])))) rfl rfl
  have HFIN := Lib.hid hfin
  have hv : (∃ et ev, eV S (some x) = .iface et ev) := by cases x <;> exact ⟨_, _, rfl⟩
  obtain ⟨et, ev, hev⟩ := hv
  rw [hev] at HFIN ⊢
  clear h hfin hx hev he
  go_enter Tryd.func58, Tryd.ntmps58
  (go_wp2_with fail; (repeat' (refine wp_region_lx {} (by kernel_rfl) (by kernel_rfl) ⟨fun _ _ _ h => h.2, fun _ _ h => h⟩ ?_; (repeat' (first | (refine wpLx_calm rfl rfl rfl (fun K hK => ?_); go_step <;> (refine hK _ ?_; clear hK K)) | (refine wpLx_skip2 rfl rfl rfl ?_; go_simp) | (refine wpLx_calm2 rfl rfl rfl rfl rfl (fun K hK => ?_); go_step <;> (refine hK _ ?_; clear hK K)))); all_goals (refine wpLx_nil ?_; try go_wp2_with fail))))
  refine bodyPost_ret (results_none rfl _ _ _) rfl ?_
  exact ⟨rfl, HFIN.out _ ((Upd.refl _ _).drew) _ rfl⟩
set_option maxHeartbeats 1000000 in
theorem scBytes (h : Sc S w base L k most lim st) :
    Calls Tryd.prog 37 #[.pointer (some ⟨L.b, 0, none⟩)] w (Ret fun v w' => v = st.tok ∧ w = w') := by
  obtain ⟨c0, c1, c2, c3, c4, c5, c6, c7, c8, c9, c10, hf⟩ := h.cells
  clear h
  go_enter Tryd.func37, Tryd.ntmps37
  (go_wp2_with fail; (repeat' (refine wp_region_lx {} (by kernel_rfl) (by kernel_rfl) ⟨fun _ _ _ h => h.2, fun _ _ h => h⟩ ?_; (repeat' (first | (refine wpLx_calm rfl rfl rfl (fun K hK => ?_); go_step <;> (refine hK _ ?_; clear hK K)) | (refine wpLx_skip2 rfl rfl rfl ?_; go_simp) | (refine wpLx_calm2 rfl rfl rfl rfl rfl (fun K hK => ?_); go_step <;> (refine hK _ ?_; clear hK K)))); all_goals (refine wpLx_nil ?_; try go_wp2_with fail))))
  go_ret
  exact ⟨rfl, rfl⟩
/-- what Err tells -/
def scErrV (S : Err → Addr) (e : Option Err) : Value := if e = some .eof then .nilIface else eV S e
set_option maxRecDepth 100000 in
set_option maxHeartbeats 1000000 in
theorem scErr {B : Nat} (E : Env S B w) (h : Sc S w base L k most lim st) :
    Calls Tryd.prog 39 #[.pointer (some ⟨L.b, 0, none⟩)] w (Ret fun v w' => v = scErrV S st.err ∧ New w w') := by
  obtain ⟨c0, c1, c2, c3, c4, c5, c6, c7, c8, c9, c10, hf⟩ := h.cells
  have l1 : w.cell? ⟨4, 0, none⟩ = some (.iface 134 (.pointer (some (S .eof)))) := (E.g .eof (by decide)).2
  cases he : st.err with
  | none =>
    rw [he] at c7
    have c7 : w.cell? ⟨L.b, 7, none⟩ = some .nilIface := c7
    have l2 : ∀ wx, (binOp .eql 77 .nilIface (.iface 134 (.pointer (some (S .eof))))).run Tryd.prog wx = .ok (.bool false) wx := fun wx => by kernel_rfl
    have e : scErrV S none = .nilIface := rfl
    rw [e]
    clear h E e
    go_enter Tryd.func39, Tryd.ntmps39
    (go_wp2_with fail; (repeat' (refine wp_region_lx {} (by kernel_rfl) (by kernel_rfl) ⟨fun _ _ _ h => h.2, fun _ _ h => h⟩ ?_; (repeat' (first | (refine wpLx_calm rfl rfl rfl (fun K hK => ?_); go_step <;> (refine hK _ ?_; clear hK K)) | (refine wpLx_skip2 rfl rfl rfl ?_; go_simp) | (refine wpLx_calm2 rfl rfl rfl rfl rfl (fun K hK => ?_); go_step <;> (refine hK _ ?_; clear hK K)))); all_goals (refine wpLx_nil ?_; try go_wp2_with fail))))
    go_ret
    exact ⟨rfl, (Upd.refl _ _).drew⟩
  | some x =>
    rw [he] at c7
    have l2 := (E.new (Upd.refl _ _).drew).eq x .eof
    obtain ⟨et, ev, hev⟩ : ∃ et ev, eV S (some x) = .iface et ev := by cases x <;> exact ⟨_, _, rfl⟩
    by_cases hx : x = .eof
    · rw [decide_eq_true hx] at l2
      have e : scErrV S (some x) = .nilIface := by unfold scErrV; rw [if_pos (by rw [hx])]
      rw [e]
      rw [hev] at c7 l2
      have l2' : ∀ wx, wx = w.drew → (binOp .eql 77 (.iface et ev) (.iface 134 (.pointer (some (S .eof))))).run Tryd.prog wx = .ok (.bool true) wx := fun wx hx => by rw [hx]; exact l2
      have l3 := l2' _ rfl
      clear h E e hev l2 l2'
      go_enter Tryd.func39, Tryd.ntmps39
      (go_wp2_with fail; (repeat' (refine wp_region_lx {} (by kernel_rfl) (by kernel_rfl) ⟨fun _ _ _ h => h.2, fun _ _ h => h⟩ ?_; (repeat' (first | (refine wpLx_calm rfl rfl rfl (fun K hK => ?_); go_step <;> (refine hK _ ?_; clear hK K)) | (refine wpLx_skip2 rfl rfl rfl ?_; go_simp) | (refine wpLx_calm2 rfl rfl rfl rfl rfl (fun K hK => ?_); go_step <;> (refine hK _ ?_; clear hK K)))); all_goals (refine wpLx_nil ?_; try go_wp2_with fail))))
      go_ret
      exact ⟨rfl, (Upd.refl _ _).drew⟩
    · rw [decide_eq_false hx] at l2
      have e : scErrV S (some x) = eV S (some x) := by unfold scErrV; rw [if_neg (fun h => hx (Option.some.inj h))]
      rw [e]
      rw [hev] at c7 l2 ⊢
      have l2' : ∀ wx, wx = w.drew → (binOp .eql 77 (.iface et ev) (.iface 134 (.pointer (some (S .eof))))).run Tryd.prog wx = .ok (.bool false) wx := fun wx hx => by rw [hx]; exact l2
      have l3 := l2' _ rfl
      clear h E e hev l2 l2'
      go_enter Tryd.func39, Tryd.ntmps39
      (go_wp2_with fail; (repeat' (refine wp_region_lx {} (by kernel_rfl) (by kernel_rfl) ⟨fun _ _ _ h => h.2, fun _ _ h => h⟩ ?_; (repeat' (first | (refine wpLx_calm rfl rfl rfl (fun K hK => ?_); go_step <;> (refine hK _ ?_; clear hK K)) | (refine wpLx_skip2 rfl rfl rfl ?_; go_simp) | (refine wpLx_calm2 rfl rfl rfl rfl rfl (fun K hK => ?_); go_step <;> (refine hK _ ?_; clear hK K)))); all_goals (refine wpLx_nil ?_; try go_wp2_with fail))))
      go_ret
      exact ⟨rfl, (Upd.refl _ _).drew⟩
end Go.Proofs.YtgbbogocfmepiaaDoor
